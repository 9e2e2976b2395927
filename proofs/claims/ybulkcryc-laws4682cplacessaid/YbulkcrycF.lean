import Derived.Test.YbulkcrycE
namespace Go.Proofs.Ybulkcryc
open Go.RowKit Go.ChangeMaps Go.MapKept

theorem zero24 (w : World) : (zeroValue 24).run Yba.prog w = .ok (.slice none 0 0) w := by kernel_rfl
def so : Nat → Nat
  | 5 => 6
  | 6 => 7
  | 7 => 8
  | 8 => 5
  | n => n
theorem so_inj : ∀ i, i < 11 → ∀ j, j < 11 → so i = so j → i = j := by decide
def edges10 : List (Nat × Nat) := [(1, 0), (2, 1), (3, 2), (7, 3), (7, 4), (6, 5), (8, 7), (9, 8), (9, 6), (10, 7), (11, 3), (11, 10), (11, 9)]
def vals10 (P Bm g k N : Nat) (v0 : Value) (st : Nat) : Nat → Value
  | 0 => .pointer (some ⟨P, 0, none⟩)
  | 1 => .pointer (some ⟨P, 0, none⟩)
  | 2 => .pointer (some ⟨P, 1, none⟩)
  | 3 => .map (some Bm)
  | 4 => refV g
  | 5 => v0
  | 6 => .int .i64 (k : Int)
  | 7 => .slice (some ⟨N, 0, none⟩) 1 1
  | 8 => .tuple #[v0, goInt st]
  | 10 => goInt st
  | _ => undef
/-- The store that the entry taken hold of allows. -/
def SL (Bm n g : Nat) (fv : Nat → Option Value) (st : Nat) (es1 : Array MapEntry) (cl1 : Nat) : Prop := ∀ (w2 : World) (v : Value), w2.heap[Bm]? = some (.map es1 cl1) → ∃ es' c', (Instr.entryStore 40 (.map (some Bm)) (goInt st) v).run Yba.prog w2 = .ok () (setBlock w2 Bm (.map es' c')) ∧ MapIs (setBlock w2 Bm (.map es' c')) Bm (n + 1) (put fv g v)
def Pre10 (W : World) (Bm k : Nat) (l6 l7 : Bool) (sl : Array MapEntry → Nat → Prop) (es1 : Array MapEntry) (cl1 : Nat) (w : World) : Prop :=
  w.os = W.os ∧ w.tape = W.tape ∧ w.output = W.output ∧ w.heap.size = W.heap.size + (if l6 then 1 else 0) ∧ (∀ b, b < W.heap.size → b ≠ Bm → w.heap[b]? = W.heap[b]?) ∧ (l6 = true → w.heap[W.heap.size]? = some (.cells #[.int .i64 (k : Int)] 3 (0, 0))) ∧ (l7 = false → w.heap[Bm]? = W.heap[Bm]?) ∧ (l7 = true → w.heap[Bm]? = some (.map es1 cl1) ∧ sl es1 cl1)
def G10 (W : World) (Bm base k : Nat) (v0 : Value) (L : List Nat) (v' : Value) (w : World) : Prop :=
  w.os = W.os ∧ w.tape = W.tape ∧ w.output = W.output ∧ W.heap.size ≤ w.heap.size ∧ (∀ b, b < W.heap.size → b ≠ Bm → some b ≠ v0.ownBlock → w.heap[b]? = W.heap[b]?) ∧ OInts w base v' (L ++ [k]) ∧ (v'.ownBlock = v0.ownBlock ∨ ∃ q, v'.ownBlock = some q ∧ W.heap.size ≤ q)
def J10 (W : World) (P Bm base g k n : Nat) (fv : Nat → Option Value) (v0 : Value) (L : List Nat) (listed : Array Bool) (f : Nat → Value) (w : World) : Prop :=
  ∃ (st : Nat) (es1 : Array MapEntry) (cl1 : Nat), (∀ i, i < 11 → i ≠ 9 → listed.getD i false = true → f (so i) = vals10 P Bm g k W.heap.size v0 st (so i)) ∧
  (listed.getD 9 false = false → Pre10 W Bm k (listed.getD 6 false) (listed.getD 7 false) (SL Bm n g fv st) es1 cl1 w) ∧
  (listed.getD 9 false = true → listed.getD 11 false = false → G10 W Bm base k v0 L (f 9) w ∧ w.heap[Bm]? = some (.map es1 cl1) ∧ SL Bm n g fv st es1 cl1) ∧
  (listed.getD 11 false = true → G10 W Bm base k v0 L (f 9) w ∧ MapIs w Bm (n + 1) (put fv g (f 9)))

theorem ownsRow_block {w w' : World} {base e size n : Nat} {v : Value} {xs : List Value} (h : w.ownsRow base e size v n xs) (hb : ∀ g, v.ownBlock = some g → w'.heap[g]? = w.heap[g]?) : w'.ownsRow base e size v n xs := by
  refine ⟨h.1, ?_⟩
  rcases h.2 with h | ⟨g, cap, cur, e1, e2, hg, r⟩
  · exact .inl h
  · exact .inr ⟨g, cap, cur, e1, e2, (hb g (by rw [e1]; rfl)).trans hg, r⟩
theorem owns_ne_map {w : World} {base e size n b : Nat} {v : Value} {xs : List Value} (h : w.ownsRow base e size v n xs) {es : Array MapEntry} {c : Nat} (hb : w.heap[b]? = some (.map es c)) : v.ownBlock ≠ some b := by
  rcases h.2 with ⟨rfl, _⟩ | ⟨g, cap, cur, rfl, _, hg, _⟩
  · simp [Value.ownBlock]
  · intro q
    simp only [Value.ownBlock, Option.some.injEq] at q
    subst q
    rw [hg] at hb
    cases hb

/-- 'append(xs, p)' as one step of a region that draws its order. -/
theorem wpOp_iapp {ops : Array Oper} {Q : Exit → Act → World → Prop} {i : Nat} {o : Oper} {K : Act → World → Prop} {a : Act} {W : World} {base : Nat} (ho' : ops[i]? = some o) (hgd : o.guard = none) (s x : Operand) (ho : o.op = .call { callee := .builtin .append, args := #[s, x], argTypes := #[24, 24] })
    {v : Value} {L : List Nat} {nb p : Nat} (hs : a.eval s = v) (hM : OInts W base v L) (hx : a.eval x = .slice (some ⟨nb, 0, none⟩) 1 1) (hb : W.heap[nb]? = some (.cells #[.int .i64 (p : Int)] 3 (0, 0))) (hL : L.length ≤ 1000000) (hbase : base ≤ W.heap.size)
    (h : ∀ v' w1, OInts w1 base v' (L ++ [p]) → W.grownBy w1 v.ownBlock → (v'.ownBlock = v.ownBlock ∨ v'.ownBlock = some W.heap.size) → K (a.put o.dst v') w1) : wpOp Yba.prog ops Q i K a W := by
  obtain ⟨i3, hi3, hz0, hz1, hz2⟩ := info_parts info3
  refine wpOp_step ho' fun K' hK => ?_
  rw [if_pos (by simp [Region.wanted, hgd])]
  obtain ⟨v', w', hr, h2, h3, _, h5⟩ := run_append_own_at (P := Yba.prog) W base 24 o.type 3 i3 (.int .i64 0) 1 8 Yba.underlying24 hi3 hz0 hz1 hz2 rfl (by decide) v L.length (L.map fun i => .int .i64 ((i : Nat) : Int)) hM ⟨nb, 0, none⟩ 1 1 [.int .i64 (p : Int)] rfl (fun j u hu => by rw [cell_at hb, ← Array.getElem?_toList]; exact hu) (fun u hu => by rw [List.mem_singleton.1 hu]; rfl) (by unfold maxLen; omega) (by omega) hbase
  unfold Oper.wp execOp
  simp only [ho, resolve, invoke, builtin, Sem.run_bind, Sem.run_pure, Result.andThen_ok, List.map_toArray, List.map_cons, List.map_nil, hs, hx, hr]
  refine hK _ _ (h v' w' ?_ h3 h5)
  unfold OInts
  rw [List.length_append, List.map_append]
  exact h2

theorem all9 {ops : Array Oper} (hw : ∀ p ∈ edges10, waits? .any ops p.1 p.2 = true) {listed : Array Bool} (hcl : Closed .any ops listed) (h : listed.getD 9 false = true) (i : Nat) (hi : i < 10) : listed.getD i false = true := by
  have go : ∀ a b, (a, b) ∈ edges10 → listed.getD a false = true → listed.getD b false = true := fun a b hab ha => hcl a b ha (hw (a, b) hab)
  have h8 := go 9 8 (by decide) h
  have h6 := go 9 6 (by decide) h
  have h7 := go 8 7 (by decide) h8
  have h3 := go 7 3 (by decide) h7
  have h2 := go 3 2 (by decide) h3
  have h1 := go 2 1 (by decide) h2
  match i, hi with
  | 0, _ => exact go 1 0 (by decide) h1
  | 1, _ => exact h1
  | 2, _ => exact h2
  | 3, _ => exact h3
  | 4, _ => exact go 7 4 (by decide) h7
  | 5, _ => exact go 6 5 (by decide) h6
  | 6, _ => exact h6
  | 7, _ => exact h7
  | 8, _ => exact h8
  | 9, _ => exact h
  | n + 10, h => omega

set_option maxHeartbeats 2000000 in
theorem more_region {ops : Array Oper} {Q : Exit → Act → World → Prop} {W : World} {P Bf Bm T5 base g k n : Nat} {fv : Nat → Option Value} {L : List Nat} {id : Nat} (A : Act) (hA : 57 ≤ A.tmps.size) (h3 : A.eval (.tmp 3) = .pointer (some ⟨P, 0, none⟩)) (h4 : A.eval (.tmp 4) = .int .i64 (k : Int)) (h5 : A.eval (.tmp 5) = .pointer (some ⟨T5, 0, none⟩))
    (hsz : ops.size = 12) (hlow : lowEdges .any ops = true) (hw : ∀ p ∈ edges10, waits? .any ops p.1 p.2 = true) (hm : Yba.prog.follows .mixedOrders = true)
    (o0 : opAt 46 ops 0 (.move (.tmp 3))) (o1 : opAt 47 ops 1 (.nilCheck (.tmp 46))) (o2 : opAt 48 ops 2 (.fieldAddr 42 (.tmp 47) 1)) (o3 : opAt 49 ops 3 (.load 40 (.tmp 48))) (o4 : opAt 50 ops 4 (.load 33 (.tmp 5))) (o5 : opAt 52 ops 5 (.move (.tmp 4))) (o6 : opAt 53 ops 6 (.buildSlice 24 1 #[(0, .tmp 52)]))
    (o7 : opAt 54 ops 7 (.mapEntry 40 (.tmp 49) (.tmp 50))) (o8 : opAt 51 ops 8 (.extract (.tmp 54) 0)) (o9 : opAt 55 ops 9 (.call { callee := .builtin .append, args := #[.tmp 51, .tmp 53], argTypes := #[24, 24] })) (o10 : opAt 56 ops 10 (.extract (.tmp 54) 1)) (o11 : opNo ops 11 (.entryStore 40 (.tmp 49) (.tmp 56) (.tmp 55)))
    (hP : W.heap[P]? = some (.cells #[.map (some Bf), .map (some Bm)] 42 (0, 0))) (hT : W.heap[T5]? = some (.cells (refC g).toArray 33 (0, 0))) (hF : MapIs W Bm n fv) (hn : n < maxLen) (hg4 : g ≤ 4) (hO : OInts W base ((fv g).getD (.slice none 0 0)) L) (hL : L.length ≤ 100000) (hbase : base ≤ W.heap.size)
    (hQ : ∀ (f : Nat → Value) (w' : World) (v' : Value), G10 W Bm base k ((fv g).getD (.slice none 0 0)) L v' w' → MapIs w' Bm (n + 1) (put fv g v') → Q .normal (putsR A 46 f 11) w') : (Code.region id ops true).wp Yba.prog Q A W := by
  obtain ⟨v0, hv0⟩ : ∃ v0, v0 = (fv g).getD (.slice none 0 0) := ⟨_, rfl⟩
  rw [← hv0] at hO hQ
  obtain ⟨es0, cl0, hBm⟩ := hF.map
  have hBml := hF.lt
  have hPl := (Array.getElem?_eq_some_iff.1 hP).1
  have hTl := (Array.getElem?_eq_some_iff.1 hT).1
  have hPne : P ≠ Bm := fun e => by subst e; rw [hP] at hBm; cases hBm
  have hTne : T5 ≠ Bm := fun e => by subst e; rw [hT] at hBm; cases hBm
  refine wp_region_held (S := fun _ => True) hm ?_
  have hev := fun f i hi => FR_eval A 46 11 hA f i hi
  have hot := FR_other A 46 11
  have key := wpAnyH_inv (P := Yba.prog) (Q := Q) (fun listed a w => ∃ f, a = FR A 46 11 f ∧ J10 W P Bm base g k n fv v0 L listed f w) hlow ?step ?done ops.size (Array.replicate ops.size false) A W.drew (by simp) (by simp) ?closed ⟨fun i => A.eval (.tmp (46 + i)), (FR_self A 46 11).symm, ?init⟩
  · exact key
  case closed =>
    intro i j hi _
    simp only [Array.getD_eq_getD_getElem?, Array.getElem?_replicate] at hi
    split at hi <;> cases hi
  case init =>
    have hn : ∀ i, (Array.replicate ops.size false).getD i false = false := by
      intro i
      simp only [Array.getD_eq_getD_getElem?, Array.getElem?_replicate]
      split <;> rfl
    refine ⟨0, #[], 0, fun i _ _ h => ?_, fun _ => ?_, fun h => ?_, fun h => ?_⟩
    · rw [hn] at h; cases h
    · rw [hn, hn]
      exact ⟨rfl, rfl, rfl, rfl, fun _ _ _ => rfl, (fun h => by cases h), fun _ => rfl, (fun h => by cases h)⟩
    · rw [hn] at h; cases h
    · rw [hn] at h; cases h
  case done =>
    rintro listed a w ⟨f, rfl, _, _, _, _, _, _, h4⟩ hall
    obtain ⟨h1, h2⟩ := h4 (hall 11 (by omega))
    rw [FR_puts]
    exact hQ f w (f 9) h1 h2
  case step =>
    rintro listed a w hs hcl ⟨f, rfl, st, es1, cl1, hv, hw1, hw3, _⟩ i hi hu hd
    have hd' : ∀ j, (i, j) ∈ edges10 → listed.getD j false = true := fun j hj => hd j (hw (i, j) hj)
    have his : i < listed.size := by omega
    have h11 : listed.getD 11 false = false := by
      cases hb : listed.getD 11 false with
      | false => rfl
      | true =>
        exfalso
        have t10 := hcl 11 10 hb (hw (11, 10) (by decide))
        have t9 := hcl 11 9 hb (hw (11, 9) (by decide))
        have : listed.getD i false = true := by
          rcases Nat.lt_or_ge i 10 with h | h
          · exact all9 hw hcl t9 i h
          · have : i = 10 ∨ i = 11 := by omega
            rcases this with rfl | rfl
            · exact t10
            · exact hb
        rw [this] at hu; cases hu
    have n9 : i < 10 → listed.getD 9 false = false := by
      intro h
      cases hb : listed.getD 9 false with
      | false => rfl
      | true => rw [all9 hw hcl hb i h] at hu; cases hu
    have vkeep : ∀ (st' : Nat) (v : Value), i < 11 → (listed.getD 7 false = true → st' = st) → v = vals10 P Bm g k W.heap.size v0 st' (so i) → ∀ j, j < 11 → j ≠ 9 → (listed.setIfInBounds i true).getD j false = true → upd f (so i) v (so j) = vals10 P Bm g k W.heap.size v0 st' (so j) := by
      intro st' v hi11 hst hvv j hj hj9 hl
      rw [set_getD _ _ _ his] at hl
      show (if so j = so i then _ else f (so j)) = _
      by_cases hij : i = j
      · subst hij; rw [if_pos rfl]; exact hvv
      · rw [if_neg hij] at hl
        rw [if_neg (fun e => hij (so_inj i hi11 j hj e.symm)), hv j hj hj9 hl]
        by_cases h7 : listed.getD 7 false = true
        · rw [hst h7]
        · have hj7 : j ≠ 7 := fun e => h7 (e ▸ hl)
          have hj10 : j ≠ 10 := fun e => h7 (hcl 10 7 (e ▸ hl) (hw (10, 7) (by decide)))
          match j, hj, hj7, hj10 with
          | 0, _, _, _ => rfl
          | 1, _, _, _ => rfl
          | 2, _, _, _ => rfl
          | 3, _, _, _ => rfl
          | 4, _, _, _ => rfl
          | 5, _, _, _ => rfl
          | 6, _, _, _ => rfl
          | 7, _, h, _ => exact absurd rfl h
          | 8, _, _, _ => rfl
          | 9, _, _, _ => rfl
          | 10, _, _, h => exact absurd rfl h
    have pure_ : ∀ (o : Oper), ops[i]? = some o → o.guard = none → o.dst = some (46 + so i) → i < 11 → so i < 11 → so i ≠ 9 → i ≠ 9 → i ≠ 6 → i ≠ 7 → (execOp (FR A 46 11 f).eval o).run Yba.prog w = .ok (.value (vals10 P Bm g k W.heap.size v0 st (so i))) w → wpOp Yba.prog ops Q i (fun a' w' => ∃ f, a' = FR A 46 11 f ∧ J10 W P Bm base g k n fv v0 L (listed.setIfInBounds i true) f w') (FR A 46 11 f) w := by
      intro o ho hg hds h1 h1' h1'' h2 h3 h3' hr
      refine wpOp_val ho hg hr ⟨upd f (so i) (vals10 P Bm g k W.heap.size v0 st (so i)), by rw [hds]; exact FR_put A 46 11 f (so i) _ h1', st, es1, cl1, vkeep st _ h1 (fun _ => rfl) rfl, ?_, ?_, ?_⟩
      · intro h
        rw [set_getD _ _ _ his, if_neg h2] at h
        rw [set_getD _ _ _ his, set_getD _ _ _ his, if_neg h3, if_neg h3']
        exact hw1 h
      · intro h h'
        rw [set_getD _ _ _ his, if_neg h2] at h
        have e : upd f (so i) (vals10 P Bm g k W.heap.size v0 st (so i)) 9 = f 9 := if_neg (Ne.symm h1'')
        rw [e]
        exact hw3 h h11
      · intro h
        rw [set_getD _ _ _ his, if_neg (by omega), h11] at h; cases h
    have blk : i < 10 → ∀ b, b < W.heap.size → b ≠ Bm → w.heap[b]? = W.heap[b]? := fun h b hb hne => (hw1 (n9 h)).2.2.2.2.1 b hb hne
    have val : ∀ j, j < 11 → so j < 11 → j ≠ 9 → (i, j) ∈ edges10 → (FR A 46 11 f).eval (.tmp (46 + so j)) = vals10 P Bm g k W.heap.size v0 st (so j) := fun j hj hsj hj9 he => (hev f (so j) hsj).trans (hv j hj hj9 (hd' j he))
    match i, hi, pure_, val, blk, hd', vkeep with
    | 0, _, pure_, _, _, _, _ =>
      obtain ⟨o, ho, hop, hg, hds⟩ := o0
      exact pure_ o ho hg hds (by omega) (by decide) (by decide) (by omega) (by omega) (by omega) ((exec_move hop).trans (by rw [hot f 3 (by omega), h3]; rfl))
    | 1, _, pure_, val, _, _, _ =>
      obtain ⟨o, ho, hop, hg, hds⟩ := o1
      exact pure_ o ho hg hds (by omega) (by decide) (by decide) (by omega) (by omega) (by omega) (exec_nil hop (val 0 (by omega) (by decide) (by omega) (by decide)))
    | 2, _, pure_, val, _, _, _ =>
      obtain ⟨o, ho, hop, hg, hds⟩ := o2
      exact pure_ o ho hg hds (by omega) (by decide) (by decide) (by omega) (by omega) (by omega) (exec_field (field42_1 w P) hop (val 1 (by omega) (by decide) (by omega) (by decide)))
    | 3, _, pure_, val, blk, _, _ =>
      obtain ⟨o, ho, hop, hg, hds⟩ := o3
      exact pure_ o ho hg hds (by omega) (by decide) (by decide) (by omega) (by omega) (by omega) (exec_load1 (load_cell agg40 w ⟨P, 1, none⟩ _ (cell_of_row _ _ _ _ _ _ ((blk (by omega) P hPl hPne).trans hP))) hop (val 2 (by omega) (by decide) (by omega) (by decide)))
    | 4, _, pure_, val, blk, _, _ =>
      obtain ⟨o, ho, hop, hg, hds⟩ := o4
      exact pure_ o ho hg hds (by omega) (by decide) (by decide) (by omega) (by omega) (by omega) (exec_ref hop ((hot f 5 (by omega)).trans h5) ((blk (by omega) T5 hTl hTne).trans hT))
    | 5, _, pure_, _, _, _, _ =>
      obtain ⟨o, ho, hop, hg, hds⟩ := o5
      exact pure_ o ho hg hds (by omega) (by decide) (by decide) (by omega) (by omega) (by omega) ((exec_move hop).trans (by rw [hot f 4 (by omega), h4]; rfl))
    | 6, _, _, val, _, _, vkeep =>
      obtain ⟨o, ho, hop, hg, hds⟩ := o6
      have h9 := n9 (by omega)
      obtain ⟨p1, p2, p3, p4, p5, p6, p7, p8⟩ := hw1 h9
      rw [hu] at p4
      have hws : w.heap.size = W.heap.size := p4
      have e1 : (FR A 46 11 f).eval (.tmp 52) = .int .i64 (k : Int) := val 5 (by omega) (by decide) (by omega) (by decide)
      refine wpOp_val ho hg (exec_slice hop (by simp only [List.map_toArray, List.map_cons, List.map_nil, e1]) (slice24 (k : Int) w)) ⟨upd f (so 6) _, by rw [hds]; exact FR_put A 46 11 f (so 6) _ (by decide), st, es1, cl1, vkeep st _ (by omega) (fun _ => rfl) ?_, ?_, ?_, ?_⟩
      · rw [hws]; rfl
      · intro _
        rw [set_getD _ _ 6 his, set_getD _ _ 7 his, if_pos rfl, if_neg (by omega)]
        refine ⟨p1, p2, p3, ?_, fun b hb hne => (heap_past _ _ _ (by omega)).trans (p5 b hb hne), fun _ => heap_at _ _ _ hws.symm, fun h => (heap_past _ _ _ (by omega)).trans (p7 h), fun h => ?_⟩
        · simp [hws]
        · obtain ⟨q1, q2⟩ := p8 h
          exact ⟨(heap_past _ _ _ (by omega)).trans q1, q2⟩
      · intro h
        rw [set_getD _ _ _ his, if_neg (by omega), h9] at h; cases h
      · intro h
        rw [set_getD _ _ _ his, if_neg (by omega), h11] at h; cases h
    | 7, _, _, val, _, _, vkeep =>
      obtain ⟨o, ho, hop, hg, hds⟩ := o7
      have h9 := n9 (by omega)
      obtain ⟨p1, p2, p3, p4, p5, p6, p7, p8⟩ := hw1 h9
      have hMw := hF.of_block (p7 hu)
      obtain ⟨st', es', cl', hr, hsl⟩ := hMw.entry Yba.underlying40 zero24 hn hg4
      rw [← hv0] at hr
      obtain ⟨esx, clx, hBx⟩ := hMw.map
      refine wpOp_val ho hg (exec_mapEntry hop (val 3 (by omega) (by decide) (by omega) (by decide)) (val 4 (by omega) (by decide) (by omega) (by decide)) hr) ⟨upd f (so 7) _, by rw [hds]; exact FR_put A 46 11 f (so 7) _ (by decide), st', es', cl', vkeep st' _ (by omega) (fun h => by rw [hu] at h; cases h) rfl, ?_, ?_, ?_⟩
      · intro _
        rw [set_getD _ _ 6 his, set_getD _ _ 7 his, if_neg (by omega), if_pos rfl]
        refine ⟨p1, p2, p3, ?_, fun b hb hne => (heap_setBlock_other hBx _ hne).trans (p5 b hb hne), fun h => ?_, (fun h => by cases h), fun _ => ⟨heap_setBlock_same hBx _, hsl⟩⟩
        · simpa [setBlock] using p4
        · exact (heap_setBlock_other hBx _ (by omega)).trans (p6 h)
      · intro h
        rw [set_getD _ _ _ his, if_neg (by omega), h9] at h; cases h
      · intro h
        rw [set_getD _ _ _ his, if_neg (by omega), h11] at h; cases h
    | 8, _, pure_, val, _, _, _ =>
      obtain ⟨o, ho, hop, hg, hds⟩ := o8
      exact pure_ o ho hg hds (by omega) (by decide) (by decide) (by omega) (by omega) (by omega) (exec_extract0 hop (val 7 (by omega) (by decide) (by omega) (by decide)))
    | 9, _, _, val, _, hd', _ =>
      obtain ⟨o, ho, hop, hg, hds⟩ := o9
      obtain ⟨p1, p2, p3, p4, p5, p6, p7, p8⟩ := hw1 hu
      have l6 := hd' 6 (by decide)
      have l7 := hcl 8 7 (hd' 8 (by decide)) (hw (8, 7) (by decide))
      rw [l6] at p4 p6
      rw [l7] at p8
      obtain ⟨q1, q2⟩ := p8 rfl
      have hws : w.heap.size = W.heap.size + 1 := p4
      have hvB : v0.ownBlock ≠ some Bm := owns_ne_map hO hBm
      have hOw : OInts w base v0 L := ownsRow_block hO (fun q hq => p5 q (World.ownsRow.lt hO q hq).2 (fun e => hvB (e ▸ hq)))
      have e1 : (FR A 46 11 f).eval (.tmp 51) = v0 := val 8 (by omega) (by decide) (by omega) (by decide)
      have e2 : (FR A 46 11 f).eval (.tmp 53) = .slice (some ⟨W.heap.size, 0, none⟩) 1 1 := val 6 (by omega) (by decide) (by omega) (by decide)
      refine wpOp_iapp ho hg (.tmp 51) (.tmp 53) hop e1 hOw e2 (p6 rfl) (by omega) (by omega) (fun v' w3 hO3 hg3 hl3 => ⟨upd f 9 v', by rw [hds]; exact FR_put A 46 11 f 9 _ (by omega), st, es1, cl1, ?_, ?_, ?_, ?_⟩)
      · intro j hj hj9 hl
        rw [set_getD _ _ _ his, if_neg (Ne.symm hj9)] at hl
        show (if so j = 9 then _ else f (so j)) = _
        rw [if_neg (show ¬ so j = 9 from fun e => hj9 (so_inj j hj 9 (by omega) e))]
        exact hv j hj hj9 hl
      · intro h
        rw [set_getD _ _ _ his, if_pos rfl] at h; cases h
      · intro _ _
        refine ⟨⟨hg3.os.trans p1, hg3.tape.trans p2, hg3.output.trans p3, by have := hg3.size; omega, fun b hb hne hnv => (hg3.block b (by omega) hnv).trans (p5 b hb hne), hO3, ?_⟩, (hg3.block Bm (by omega) (fun e => hvB e.symm)).trans q1, q2⟩
        rcases hl3 with h | h
        · exact .inl h
        · exact .inr ⟨_, h, by omega⟩
      · intro h
        rw [set_getD _ _ _ his, if_neg (by omega), h11] at h; cases h
    | 10, _, pure_, val, _, _, _ =>
      obtain ⟨o, ho, hop, hg, hds⟩ := o10
      exact pure_ o ho hg hds (by omega) (by decide) (by decide) (by omega) (by omega) (by omega) (exec_extract1 hop (val 7 (by omega) (by decide) (by omega) (by decide)))
    | 11, _, _, val, _, hd', _ =>
      obtain ⟨o, ho, hop, hg, hds⟩ := o11
      obtain ⟨⟨r1, r2, r3, r4, r5, r6, r7⟩, q1, q2⟩ := hw3 (hd' 9 (by decide)) h11
      obtain ⟨es', c', hr, hM'⟩ := q2 w (f 9) q1
      refine wpOp_unit ho hg hds (exec_entryStore hop (val 3 (by omega) (by decide) (by omega) (by decide)) (val 10 (by omega) (by decide) (by omega) (by decide)) (hev f 9 (by omega)) hr) ⟨f, rfl, st, es1, cl1, ?_, ?_, ?_, ?_⟩
      · intro j hj hj9 hl
        rw [set_getD _ _ _ his, if_neg (by omega)] at hl
        exact hv j hj hj9 hl
      · intro h
        rw [set_getD _ _ _ his, if_neg (by omega), hd' 9 (by decide)] at h; cases h
      · intro _ h
        rw [set_getD _ _ _ his, if_pos rfl] at h; cases h
      · intro _
        refine ⟨⟨r1, r2, r3, by simpa [setBlock] using r4, fun b hb hne hnv => (heap_setBlock_other q1 _ hne).trans (r5 b hb hne hnv), ownsRow_block r6 (fun q hq => heap_setBlock_other q1 _ (fun e => owns_ne_map r6 q1 (e ▸ hq))), r7⟩, hM'⟩
    | n + 12, h, _, _, _, _, _ => omega

end Go.Proofs.Ybulkcryc
