import Derived.Test.YbulkcrxaDoorW
namespace Go.Proofs.YbulkcrxaDoor
open Go.RowKit

/-- In this region number i waits for number j. -/
def waits? (md : Region.Mode) (ops : Array Oper) (i j : Nat) : Bool :=
  match ops[i]? with
  | some o => o.after.toList.any fun e => Region.binds md e && (e.on == j)
  | none => false
def lowEdges (md : Region.Mode) (ops : Array Oper) : Bool := (List.range ops.size).all fun i =>
  match ops[i]? with
  | some o => o.after.toList.all fun e => !Region.binds md e || decide (e.on < i)
  | none => true
def Closed (md : Region.Mode) (ops : Array Oper) (listed : Array Bool) : Prop := ∀ i j, listed.getD i false = true → waits? md ops i j = true → listed.getD j false = true

theorem waits_of {md : Region.Mode} {ops : Array Oper} {i : Nat} {o : Oper} (ho : ops[i]? = some o) {e : Edge} (he : e ∈ o.after) (hb : Region.binds md e = true) : waits? md ops i e.on = true := by
  unfold waits?
  rw [ho]
  simp only [List.any_eq_true, Bool.and_eq_true, beq_iff_eq]
  exact ⟨e, by simpa using he, hb, rfl⟩
theorem of_waits {md : Region.Mode} {ops : Array Oper} {i j : Nat} {o : Oper} (ho : ops[i]? = some o) (h : waits? md ops i j = true) : ∃ e ∈ o.after, Region.binds md e = true ∧ e.on = j := by
  unfold waits? at h
  rw [ho] at h
  simp only [List.any_eq_true, Bool.and_eq_true, beq_iff_eq] at h
  obtain ⟨e, h1, h2, h3⟩ := h
  exact ⟨e, by simpa using h1, h2, h3⟩
theorem low_of {md : Region.Mode} {ops : Array Oper} (hl : lowEdges md ops = true) {i : Nat} {o : Oper} (ho : ops[i]? = some o) {e : Edge} (he : e ∈ o.after) (hb : Region.binds md e = true) : e.on < i := by
  unfold lowEdges at hl
  rw [List.all_eq_true] at hl
  have := hl i (by rw [List.mem_range]; exact (Array.getElem?_eq_some_iff.1 ho).1)
  rw [ho] at this
  simp only [List.all_eq_true] at this
  have := this e (by simpa using he)
  simpa [hb] using this

theorem getD_false_true {l : Array Bool} {i : Nat} (h : l.getD i true = false) : l.getD i false = false := by
  simp only [Array.getD_eq_getD_getElem?] at h ⊢
  cases hh : l[i]? with
  | none => rfl
  | some b => rw [hh] at h; exact h
theorem getD_true_false {l : Array Bool} {i : Nat} (hi : i < l.size) (h : l.getD i false = false) : l.getD i true = false := by
  simp only [Array.getD_eq_getD_getElem?] at h ⊢
  rw [Array.getElem?_eq_getElem hi] at h ⊢
  exact h

theorem count_set (l : List Bool) : ∀ (i : Nat), l[i]? = some false → (l.set i true).count false + 1 = l.count false := by
  induction l with
  | nil => intro i h; simp at h
  | cons b r ih =>
    intro i h
    cases i with
    | zero => simp at h; subst h; simp
    | succ i =>
      simp only [List.getElem?_cons_succ] at h
      have := ih i h
      simp only [List.set_cons_succ, List.count_cons]
      omega

theorem listed_of_count {l : Array Bool} (h : l.toList.count false = 0) {i : Nat} (hi : i < l.size) : l.getD i false = true := by
  rw [List.count_eq_zero] at h
  simp only [Array.getD_eq_getD_getElem?, Array.getElem?_eq_getElem hi]
  cases hb : l[i] with
  | true => rfl
  | false =>
    exfalso
    apply h
    rw [← hb]
    simp

theorem set_getD (l : Array Bool) (i j : Nat) (hi : i < l.size) : (l.setIfInBounds i true).getD j false = if i = j then true else l.getD j false := by
  simp only [Array.getD_eq_getD_getElem?, Array.getElem?_setIfInBounds]
  by_cases h : i = j
  · subst h; simp [hi]
  · simp [h]

/-- A REGION THAT DRAWS ITS ORDER, BY AN INVARIANT on what has come up, the frame and the world: each operation is looked at once, whatever came before it. -/
theorem wpAnyH_inv {P : Program} {md : Region.Mode} {ops : Array Oper} {Q : Exit → Act → World → Prop} (I : Array Bool → Act → World → Prop) (hlow : lowEdges md ops = true)
    (hstep : ∀ listed a w, listed.size = ops.size → Closed md ops listed → I listed a w → ∀ i, i < ops.size → listed.getD i false = false → (∀ j, waits? md ops i j = true → listed.getD j false = true) → wpOp P ops Q i (fun a' w' => I (listed.setIfInBounds i true) a' w') a w)
    (hdone : ∀ listed a w, I listed a w → (∀ i, i < ops.size → listed.getD i false = true) → Q .normal a w) :
    ∀ (fuel : Nat) (listed : Array Bool) (a : Act) (w : World), listed.size = ops.size → listed.toList.count false = fuel → Closed md ops listed → I listed a w → wpAnyH P md ops Q (fun _ => True) fuel listed a w
  | 0, listed, a, w, hs, hc, _, hI => by
    have hall : ∀ i, i < ops.size → listed.getD i false = true := fun i hi => listed_of_count hc (by omega)
    refine ⟨?_, hdone listed a w hI hall⟩
    rw [List.eq_nil_iff_forall_not_mem]
    intro i hi
    obtain ⟨h1, o, ho, _⟩ := mem_ready.1 hi
    have := hall i (Array.getElem?_eq_some_iff.1 ho).1
    rw [getD_false_true h1] at this
    cases this
  | fuel + 1, listed, a, w, hs, hc, hcl, hI => by
    refine ⟨fun hr => hdone listed a w hI ?_, fun i hi => ?_⟩
    · have key : ∀ n i, i < n → i < ops.size → listed.getD i false = true := by
        intro n
        induction n with
        | zero => intro i h; omega
        | succ n ih =>
          intro i hin his
          cases hb : listed.getD i false with
          | true => rfl
          | false =>
            exfalso
            obtain ⟨o, ho⟩ : ∃ o, ops[i]? = some o := ⟨_, Array.getElem?_eq_getElem his⟩
            have : i ∈ Region.ready md ops listed := mem_ready.2 ⟨getD_true_false (by omega) hb, o, ho, fun e he hb => ih e.on (by have := low_of hlow ho he hb; omega) (by have := low_of hlow ho he hb; omega)⟩
            rw [hr] at this
            cases this
      exact fun i hi => key (i + 1) i (by omega) hi
    · obtain ⟨h1, o, ho, hd⟩ := mem_ready.1 hi
      have his := (Array.getElem?_eq_some_iff.1 ho).1
      have hdeps : ∀ j, waits? md ops i j = true → listed.getD j false = true := by
        intro j hj
        obtain ⟨e, he, hb, rfl⟩ := of_waits ho hj
        exact hd e he hb
      have hil : i < listed.size := by omega
      refine wpOp_mono (fun a' w' h => ⟨trivial, ?_⟩) (hstep listed a w hs hcl hI i his (getD_false_true h1) hdeps)
      refine wpAnyH_inv I hlow hstep hdone fuel _ a' w' (by simpa using hs) ?_ ?_ h
      · have hli : listed.toList[i]? = some false := by
          have := getD_false_true h1
          simp only [Array.getD_eq_getD_getElem?, Array.getElem?_eq_getElem hil] at this
          simp only [Array.getElem?_toList, Array.getElem?_eq_getElem hil]
          rw [← this]; rfl
        have := count_set listed.toList i hli
        rw [Array.toList_setIfInBounds]
        omega
      · intro i' j hi' hw
        rw [set_getD _ _ _ hil] at hi' ⊢
        by_cases hij : i = j
        · rw [if_pos hij]
        · rw [if_neg hij]
          by_cases hii : i = i'
          · subst hii; exact hdeps j hw
          · rw [if_neg hii] at hi'
            exact hcl i' j hi' hw

theorem wpOp_val {P : Program} {ops : Array Oper} {Q : Exit → Act → World → Prop} {i : Nat} {o : Oper} {K : Act → World → Prop} {a : Act} {w w' : World} {v : Value} (ho : ops[i]? = some o) (hg : o.guard = none) (hrun : (execOp a.eval o).run P w = .ok (.value v) w') (h : K (a.put o.dst v) w') : wpOp P ops Q i K a w := by
  refine wpOp_step ho fun K' hK => ?_
  rw [if_pos (by simp [Region.wanted, hg])]
  unfold Oper.wp
  rw [hrun]
  exact hK _ _ h

end Go.Proofs.YbulkcrxaDoor
