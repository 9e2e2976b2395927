import Derived.Test.YbulkcrtuSG
import Derived.Lib.BytesEntry
namespace Go.Proofs.Ybulkcrtu
open Go.RowKit

/-! ### A drawn region that writes a slot it has read -/
def ckVol (ops : List Oper) (i : Nat) (vs : List Nat) : Bool := vs.all fun s => (List.range ops.length).all fun k => !(dstOf ops k == some s) || waits? .any ops.toArray k i
theorem look_pick {l : List (Nat × Value)} {ks : List Nat} {s : Nat} {v : Value} (h : look (pick l ks) s = some v) : s ∈ ks ∧ look l s = some v := by
  have hm := look_mem h
  clear h
  induction ks with
  | nil => simp [pick] at hm
  | cons k r ih =>
    unfold pick at hm
    split at hm
    · rename_i u hu
      rcases List.mem_cons.1 hm with e | e
      · simp only [Prod.mk.injEq] at e
        obtain ⟨rfl, rfl⟩ := e
        exact ⟨List.mem_cons_self, hu⟩
      · obtain ⟨h1, h2⟩ := ih e
        exact ⟨List.mem_cons_of_mem _ h1, h2⟩
    · obtain ⟨h1, h2⟩ := ih hm
      exact ⟨List.mem_cons_of_mem _ h1, h2⟩
def DoV (ops : List Oper) (vals : List Value) (l0 lv : List (Nat × Value)) (S : World → Prop) (i : Nat) : Prop :=
  ∀ w, S w → ∀ o, ops[i]? = some o → ∃ ks vs, ckDeps ops i ks = true ∧ ckVol ops i vs = true ∧
      ((Wants ops.toArray (kn vals ks (pick lv vs ++ l0)) o ∧ Goes (kn vals ks (pick lv vs ++ l0)) o w (vals.getD i undef) S) ∨ (Shuns ops.toArray (kn vals ks (pick lv vs ++ l0)) o ∧ vals.getD i undef = undef ∧ S w))
theorem drawnV {ops : List Oper} {Q : Exit → Act → World → Prop} {a : Act} {w : World} {N id : Nat} {l0 lv : List (Nat × Value)} (vals : List Value) (S : World → Prop) (hA : At a N l0) (hV : At a N lv)
    (hm : Yba.prog.follows .mixedOrders = true) (hck : ckDst N ops (l0.map (·.1)) = true) (h0 : S w.drew) (hob : Each (DoV ops vals l0 lv S) 0 ops.length)
    (hend : ∀ a w', At a N (outs ops vals ++ l0) → S w' → Q .normal a w') : (Code.region id ops.toArray true).wp Yba.prog Q a w := by
  unfold ckDst at hck
  rw [Bool.and_eq_true] at hck
  obtain ⟨hlow, hds⟩ := hck
  rw [List.all_eq_true] at hds
  have hdst : ∀ i s, dstOf ops i = some s → s < N ∧ (∀ p ∈ l0, p.1 ≠ s) ∧ ∀ j, dstOf ops j = some s → j = i := by
    intro i s his
    have hi : i < ops.length := by
      unfold dstOf at his
      cases ho : ops[i]? with
      | none => rw [ho] at his; simp at his
      | some o => exact (List.getElem?_eq_some_iff.1 ho).1
    have h1 := hds i (List.mem_range.2 hi)
    rw [his] at h1
    simp only [Bool.and_eq_true, List.all_eq_true, Bool.or_eq_true, Nat.blt, List.mem_map, forall_exists_index, and_imp] at h1
    obtain ⟨⟨h1, h2⟩, h3⟩ := h1
    refine ⟨by simp at h1; omega, fun p hp e => ?_, fun j hj => ?_⟩
    · have := h2 p.1 p hp rfl
      rw [e] at this
      simp at this
    · have hj' : j < ops.length := by
        unfold dstOf at hj
        cases ho : ops[j]? with
        | none => rw [ho] at hj; simp at hj
        | some o => exact (List.getElem?_eq_some_iff.1 ho).1
      rcases h3 j (List.mem_range.2 hj') with h | h
      · exact (Nat.eq_of_beq_eq_true h).symm
      · rw [hj] at h; simp at h
  have hrep : ∀ j, (Array.replicate ops.toArray.size false).getD j false = false := fun j => by
    simp only [Array.getD_eq_getD_getElem?, Array.getElem?_replicate]
    split <;> rfl
  refine wp_region_held (S := fun _ => True) hm ?_
  refine wpAnyH_inv (fun listed a w => At a N l0 ∧ (∀ j s, listed.getD j false = true → dstOf ops j = some s → a.tmps[s]? = some (vals.getD j undef)) ∧ (∀ s v, look lv s = some v → (∀ j, dstOf ops j = some s → listed.getD j false = false) → a.tmps[s]? = some v) ∧ S w) hlow ?_ ?_ _ _ _ _ ?_ ?_ ?_ ?_
  · rintro listed a w hls hcl ⟨ha, hv, hvol, hS⟩ i hi hni hdep
    have hi' : i < ops.length := by simpa using hi
    obtain ⟨o, ho⟩ : ∃ o, ops[i]? = some o := ⟨_, List.getElem?_eq_getElem hi'⟩
    obtain ⟨ks, vs, hks, hvs, hgo⟩ := each_all hob i (Nat.zero_le _) (by omega) w hS o ho
    have hak : At a N (kn vals ks (pick lv vs ++ l0)) := by
      refine ⟨ha.size, ha.defers, fun s v hs => ?_⟩
      rcases look_append hs with h | h
      · have := look_mem h
        simp only [List.mem_map, Prod.mk.injEq] at this
        obtain ⟨p, hp, rfl, rfl⟩ := this
        unfold ckDeps at hks
        rw [List.all_eq_true] at hks
        have := hks p hp
        simp only [Bool.and_eq_true, beq_iff_eq] at this
        exact hv p.2 p.1 (hdep _ this.2) this.1
      · rcases look_append h with h | h
        · obtain ⟨hm, hl⟩ := look_pick h
          refine hvol s v hl fun j hj => ?_
          unfold ckVol at hvs
          rw [List.all_eq_true] at hvs
          have := hvs s hm
          rw [List.all_eq_true] at this
          have hj' : j < ops.length := by
            unfold dstOf at hj
            cases ho' : ops[j]? with
            | none => rw [ho'] at hj; simp at hj
            | some o => exact (List.getElem?_eq_some_iff.1 ho').1
          have h2 := this j (List.mem_range.2 hj')
          rw [Bool.or_eq_true] at h2
          rcases h2 with h2 | h2
          · rw [hj] at h2; simp at h2
          · cases hh : listed.getD j false with
            | false => rfl
            | true =>
              have := hcl j i hh h2
              rw [hni] at this
              cases this
        · exact ha.get s v h
    have hset : ∀ j, (listed.setIfInBounds i true).getD j false = if j = i then true else listed.getD j false := fun j => by
      rw [set_getD _ _ _ (by omega)]
      by_cases e : i = j
      · subst e; simp
      · rw [if_neg e, if_neg (fun h => e h.symm)]
    have hput : ∀ u, vals.getD i undef = u → At (a.put o.dst u) N l0 ∧ ∀ j s, (listed.setIfInBounds i true).getD j false = true → dstOf ops j = some s → (a.put o.dst u).tmps[s]? = some (vals.getD j undef) := by
      intro u hu
      cases hd : o.dst with
      | none =>
        refine ⟨ha, fun j s hj hs => hv j s ?_ hs⟩
        rw [hset] at hj
        by_cases e : j = i
        · subst e
          unfold dstOf at hs
          rw [ho] at hs
          simp [hd] at hs
        · rwa [if_neg e] at hj
      | some t =>
        have hdi : dstOf ops i = some t := by simp [dstOf, ho, hd]
        obtain ⟨ht, hl0, huniq⟩ := hdst i t hdi
        refine ⟨⟨by simpa [Act.put] using ha.size, ha.defers, fun s v hs => ?_⟩, fun j s hj hs => ?_⟩
        · have : s ≠ t := hl0 _ (look_mem hs)
          simp only [Act.put, Array.getElem?_setIfInBounds]
          rw [if_neg (fun e => this e.symm)]
          exact ha.get s v hs
        · simp only [Act.put, Array.getElem?_setIfInBounds]
          by_cases e : j = i
          · subst e
            rw [hdi] at hs
            simp only [Option.some.injEq] at hs
            subst hs
            rw [if_pos rfl, if_pos (by rw [ha.size]; exact ht), hu]
          · rw [hset, if_neg e] at hj
            have : s ≠ t := by
              rintro rfl
              exact e (huniq j hs)
            rw [if_neg (fun e => this e.symm)]
            exact hv j s hj hs
    have hvp : ∀ u, ∀ s v, look lv s = some v → (∀ j, dstOf ops j = some s → (listed.setIfInBounds i true).getD j false = false) → (a.put o.dst u).tmps[s]? = some v := by
      intro u s v hl hno
      have hno' : ∀ j, dstOf ops j = some s → listed.getD j false = false := fun j hj => by
        have := hno j hj
        rw [hset] at this
        by_cases e : j = i
        · rw [if_pos e] at this; cases this
        · rwa [if_neg e] at this
      cases hd : o.dst with
      | none => exact hvol s v hl hno'
      | some t =>
        have hdi : dstOf ops i = some t := by simp [dstOf, ho, hd]
        have hst : s ≠ t := by
          rintro rfl
          have := hno i hdi
          rw [hset, if_pos rfl] at this
          cases this
        simp only [Act.put, Array.getElem?_setIfInBounds]
        rw [if_neg (fun e => hst e.symm)]
        exact hvol s v hl hno'
    have hoa : ops.toArray[i]? = some o := by simpa using ho
    refine wpOp_step hoa fun K' hK => ?_
    rcases hgo with ⟨hw, hgo⟩ | ⟨hw, hu, hS'⟩
    · rw [if_pos (hw a N hak)]
      exact hgo a N hak K' Q fun w' hS' => hK _ _ ⟨(hput _ rfl).1, (hput _ rfl).2, hvp _, hS'⟩
    · rw [if_neg (by rw [hw a N hak]; simp)]
      exact hK _ _ ⟨(hput _ hu).1, (hput _ hu).2, hvp _, hS'⟩
  · rintro listed a w ⟨ha, hv, _, hS⟩ hall
    refine hend a w ⟨ha.size, ha.defers, fun s v hs => ?_⟩ hS
    rcases look_append hs with h | h
    · obtain ⟨j, h1, h2, h3⟩ := mem_outs (look_mem h)
      have := hv j s (hall j (by simpa using h3)) h1
      rw [this, List.getD_eq_getElem?_getD, h2]
      rfl
    · exact ha.get s v h
  · simp
  · simp
  · intro i j hi
    rw [hrep] at hi
    cases hi
  · refine ⟨hA, fun j s hj => ?_, fun s v hl _ => hV.get s v hl, h0⟩
    rw [hrep] at hj
    cases hj

section
variable {ops : List Oper} {vals : List Value} {l0 lv : List (Nat × Value)} {S : World → Prop} {i : Nat} {o : Oper}
theorem dv0 (ho : ops[i]? = some o) (ks : List (Nat × Nat)) (vs : List Nat) (hck : ckDeps ops i ks = true) (hcv : ckVol ops i vs = true) (hw : Wants ops.toArray (kn vals ks (pick lv vs ++ l0)) o) (hgo : ∀ w, S w → Goes (kn vals ks (pick lv vs ++ l0)) o w (vals.getD i undef) (· = w)) : DoV ops vals l0 lv S i := fun w hS o' ho' => by
  rw [ho] at ho'
  obtain rfl := Option.some.inj ho'
  refine ⟨ks, vs, hck, hcv, .inl ⟨hw, fun a N hA K Q hK => hgo w hS a N hA K Q fun w' hw' => hK w' ?_⟩⟩
  subst hw'
  exact hS
theorem dv1 (ho : ops[i]? = some o) (ks : List (Nat × Nat)) (vs : List Nat) (hck : ckDeps ops i ks = true) (hcv : ckVol ops i vs = true) (hw : Wants ops.toArray (kn vals ks (pick lv vs ++ l0)) o) (hgo : ∀ w, S w → Goes (kn vals ks (pick lv vs ++ l0)) o w (vals.getD i undef) S) : DoV ops vals l0 lv S i := fun w hS o' ho' => by
  rw [ho] at ho'
  obtain rfl := Option.some.inj ho'
  exact ⟨ks, vs, hck, hcv, .inl ⟨hw, hgo w hS⟩⟩
end
end Go.Proofs.Ybulkcrtu
