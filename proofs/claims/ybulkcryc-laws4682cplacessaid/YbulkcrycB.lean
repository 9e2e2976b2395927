import Derived.Test.YbulkcrycK
namespace Go.Proofs.Ybulkcryc
open Go.RowKit

theorem info33 : (Yba.prog.info? 33).map (·.size) = some 3 := by kernel_rfl
theorem ref_any : ∀ (g : Nat) (w : World), g ≤ 4 → Calls Yba.prog 8 #[.int .i64 g] w fun e w' => e = .returned (refV g) ∧ Below w.heap.size w w'
  | 0, w, _ => by
    go_enter Yba.func8, Yba.ntmps8
    go_wp2
    refine bodyPost_ret (results_cell_row rfl _ _ w.heap.size 33 _ (0, 0) _ rfl (heap2a _ _ _) Yba.underlying33 rfl info33) rfl ?_
    exact ⟨rfl, below_al0 (below_al0 (Below.refl _ _))⟩
  | 1, w, _ => by
    go_enter Yba.func8, Yba.ntmps8
    go_wp2
    refine bodyPost_ret (results_cell_row rfl _ _ w.heap.size 33 _ (0, 0) _ rfl (heap2a _ _ _) Yba.underlying33 rfl info33) rfl ?_
    exact ⟨rfl, below_al0 (below_al0 (Below.refl _ _))⟩
  | 2, w, _ => by
    go_enter Yba.func8, Yba.ntmps8
    go_wp2
    refine bodyPost_ret (results_cell_row rfl _ _ w.heap.size 33 _ (0, 0) _ rfl (heap2a _ _ _) Yba.underlying33 rfl info33) rfl ?_
    exact ⟨rfl, below_al0 (below_al0 (Below.refl _ _))⟩
  | 3, w, _ => by
    go_enter Yba.func8, Yba.ntmps8
    go_wp2
    refine bodyPost_ret (results_cell_row rfl _ _ w.heap.size 33 _ (0, 0) _ rfl (heap2a _ _ _) Yba.underlying33 rfl info33) rfl ?_
    exact ⟨rfl, below_al0 (below_al0 (Below.refl _ _))⟩
  | 4, w, _ => by
    go_enter Yba.func8, Yba.ntmps8
    go_wp2
    refine bodyPost_ret (results_cell_row rfl _ _ w.heap.size 33 _ (0, 0) _ rfl (heap2a _ _ _) Yba.underlying33 rfl info33) rfl ?_
    exact ⟨rfl, below_al0 (below_al0 (Below.refl _ _))⟩
  | n + 5, _, h => by omega

/-- A slice that holds the numbers L. -/
def IRow (w : World) (v : Value) (L : List Nat) : Prop :=
  ∃ a cap, v = .slice a L.length cap ∧ (L = [] ∨ ∃ b off, a = some ⟨b, off, none⟩ ∧ ∀ i, i < L.length → w.cell? ⟨b, off + i, none⟩ = some (.int .i64 ((L.getD i 0 : Nat) : Int)))
/-- A slice of the call's own that holds the numbers L. -/
def OInts (w : World) (base : Nat) (v : Value) (L : List Nat) : Prop := w.ownsRow base 3 1 v L.length (L.map fun i => .int .i64 ((i : Nat) : Int))

theorem OInts.irow {w : World} {base : Nat} {v : Value} {L : List Nat} (h : OInts w base v L) : IRow w v L := by
  rcases h.2 with ⟨rfl, hn⟩ | ⟨g, cap, cur, rfl, _, _⟩
  · exact ⟨none, 0, by rw [hn], .inl (List.eq_nil_of_length_eq_zero hn)⟩
  · refine ⟨some ⟨g, 0, none⟩, cap, rfl, .inr ⟨g, 0, rfl, fun i hi => ?_⟩⟩
    rw [Nat.zero_add, World.ownsRow.cellAt h i (by omega), List.getElem?_map, List.getElem?_eq_getElem hi, List.getD_eq_getElem?_getD, List.getElem?_eq_getElem hi]
    rfl

set_option maxHeartbeats 400000 in
theorem equal_same (v1 v2 : Value) (l : List Nat) (w : World) (h1 : IRow w v1 l) (h2 : IRow w v2 l) (hl : l.length ≤ 1000000) :
    Calls Yba.prog 10 #[v1, v2] w fun e w' => e = .returned (.bool true) ∧ ∃ n, w' = w.drewN n := by
  obtain ⟨a1, c1, rfl, h1⟩ := h1
  obtain ⟨a2, c2, rfl, h2⟩ := h2
  go_enter Yba.func10, Yba.ntmps10
  go_wp2_with fail
  go_loopw [5, 13] (fun _ i wr => ∃ (k n : Nat), k ≤ l.length ∧ i = .int .i64 k ∧ wr = w.drewN n) (fun _ i _ => l.length - (intOf i).toNat)
  case atStart => exact ⟨0, 0, by omega, rfl, rfl⟩
  case round =>
    obtain ⟨k, n, hk, rfl, rfl⟩ := hrel
    by_cases hlt : k < l.length
    · rcases h1 with h1 | ⟨b1, o1, rfl, h1⟩
      · simp [h1] at hlt
      rcases h2 with h2 | ⟨b2, o2, rfl, h2⟩
      · simp [h2] at hlt
      obtain ⟨s, hs⟩ : ∃ s, s = l.getD k 0 := ⟨_, rfl⟩
      have g1 := h1 k hlt
      have g2 := h2 k hlt
      rw [← hs] at g1 g2
      clear hs
      have hlt' : (k : Int) < (l.length : Int) := by omega
      go_wp2
      go_quiet (fail)
      go_wp2
      exact ⟨⟨k + 1, n + nq, by omega, by go_num, rfl⟩, by simp [intOf]; omega⟩
    · go_wp2
      go_ret
      exact ⟨rfl, n, rfl⟩

theorem info3 : (Yba.prog.info? 3).map (fun i => (i.zero, i.size, i.bytes)) = some (some (.int .i64 0), 1, 8) := by kernel_rfl

/-- 'xs = append(xs, p)'. -/
theorem iapp {W : World} {base : Nat} {ops : Array Oper} {rest : List Oper} {o : Oper} {a : Act} {Q : Exit → Act → World → Prop} (hgd : o.guard = none) (s x : Operand) (ho : o.op = .call { callee := .builtin .append, args := #[s, x], argTypes := #[24, 24] })
    {v : Value} {L : List Nat} {nb p : Nat} (hs : a.eval s = v) (hM : OInts W base v L) (hx : a.eval x = .slice (some ⟨nb, 0, none⟩) 1 1) (hb : W.heap[nb]? = some (.cells #[.int .i64 (p : Int)] 3 (0, 0))) (hL : L.length ≤ 1000000) (hbase : base ≤ W.heap.size)
    (h : ∀ v' w1, OInts w1 base v' (L ++ [p]) → (∃ a c, v' = .slice a (L.length + 1) c) → W.grownBy w1 v.ownBlock → (v'.ownBlock = v.ownBlock ∨ v'.ownBlock = some W.heap.size) → wpList Yba.prog ops Q rest (a.put o.dst v') w1) : wpList Yba.prog ops Q (o :: rest) a W := by
  obtain ⟨i3, hi3, hz0, hz1, hz2⟩ := info_parts info3
  refine wpList_append_own_at W hgd s x 24 ho base 3 i3 (.int .i64 0) 1 8 Yba.underlying24 hi3 hz0 hz1 hz2 rfl (by decide) v L.length (L.map fun i => .int .i64 ((i : Nat) : Int)) hs hM ⟨nb, 0, none⟩ 1 1 [.int .i64 (p : Int)] hx rfl (fun j u hu => by rw [cell_at hb, ← Array.getElem?_toList]; exact hu) (fun u hu => by rw [List.mem_singleton.1 hu]; rfl) (by unfold maxLen; omega) (by omega) hbase ?_
  intro v' w1 ho hg _ hl
  refine h v' w1 ?_ ?_ hg hl
  · unfold OInts
    rw [List.length_append, List.map_append]
    exact ho
  · rcases ho.2 with ⟨_, e⟩ | ⟨g, cap, _, e, _⟩
    · omega
    · exact ⟨_, _, e⟩

theorem OInts.shape {w : World} {base : Nat} {v : Value} {L : List Nat} (h : OInts w base v L) : ∃ a c, v = .slice a L.length c := by
  rcases h.2 with ⟨rfl, e⟩ | ⟨g, cap, _, e, _⟩
  · exact ⟨none, 0, by rw [e]⟩
  · exact ⟨_, _, e⟩

/-- Nothing but block T and the rows of numbers from base on has turned. -/
def Keep (T base : Nat) (w w' : World) : Prop :=
  w'.os = w.os ∧ w'.tape = w.tape ∧ w'.output = w.output ∧ w.heap.size ≤ w'.heap.size ∧ ∀ b, b < w.heap.size → b ≠ T → (b < base ∨ ∀ c fr, w.heap[b]? ≠ some (.cells c 3 fr)) → w'.heap[b]? = w.heap[b]?
theorem Keep.refl (T base : Nat) (w : World) : Keep T base w w := ⟨rfl, rfl, rfl, Nat.le_refl _, fun _ _ _ _ => rfl⟩
theorem Keep.trans {T base : Nat} {w w1 w2 : World} (h : Keep T base w w1) (k : Keep T base w1 w2) : Keep T base w w2 := by
  obtain ⟨h1, h2, h3, h4, h5⟩ := h
  obtain ⟨k1, k2, k3, k4, k5⟩ := k
  refine ⟨k1.trans h1, k2.trans h2, k3.trans h3, Nat.le_trans h4 k4, fun b hb hT hc => ?_⟩
  have e := h5 b hb hT hc
  refine (k5 b (by omega) hT ?_).trans e
  rw [e]
  exact hc
theorem Keep.drewN {T base : Nat} {w w1 : World} (h : Keep T base w w1) (n : Nat) : Keep T base w (w1.drewN n) := h
theorem Keep.below {T base : Nat} {w w1 : World} (h : Below w.heap.size w w1) : Keep T base w w1 := ⟨h.os, h.tape, h.output, h.size, fun b hb _ _ => h.block b hb⟩
theorem Keep.low {T base B : Nat} {w w1 : World} (h : Keep T base w w1) (hT : B ≤ T) (hb : B ≤ base) (hs : B ≤ w.heap.size) : Below B w w1 := ⟨h.1, h.2.1, h.2.2.1, h.2.2.2.1, fun b hb => h.2.2.2.2 b (by omega) (by omega) (.inl (by omega))⟩

/-- The variable at block T holds a slice of the call's own with the numbers L. -/
def Got (w : World) (T base : Nat) (L : List Nat) : Prop := ∃ v, w.heap[T]? = some (.cells #[v] 24 (0, 0)) ∧ OInts w base v L

theorem keep_app {W w1 : World} {base T : Nat} {v : Value} {L : List Nat} (hO : OInts W base v L) (hg : W.grownBy w1 v.ownBlock) : Keep T base W w1 := by
  refine ⟨hg.os, hg.tape, hg.output, hg.size, fun b hb _ hc => hg.block b hb ?_⟩
  intro e
  rcases hc with hc | hc
  · have := (World.ownsRow.lt hO b e.symm).1
    omega
  · rcases hO.2 with ⟨e1, _⟩ | ⟨g, cap, cur, e1, _, hg', _⟩
    · rw [e1] at e; cases e
    · rw [e1] at e
      simp only [Value.ownBlock, Option.some.injEq] at e
      subst e
      exact hc _ _ hg'
theorem keep_store {w w1 : World} {base T : Nat} (h : Keep T base w w1) (o : Nat) (u : Value) : Keep T base w (w1.setCell ⟨T, o, none⟩ u) := by
  obtain ⟨h1, h2, h3, h4, h5⟩ := h
  refine ⟨h1, h2, h3, by simpa [World.setCell] using h4, fun b hb hT hc => ?_⟩
  rw [heap_setCell_other _ _ _ _ hT]
  exact h5 b hb hT hc
theorem got_store {w : World} {T base : Nat} {v v' : Value} {L : List Nat} (hT : w.heap[T]? = some (.cells #[v] 24 (0, 0))) (hO : OInts w base v' L) : Got (w.setCell ⟨T, 0, none⟩ v') T base L := by
  refine ⟨v', heap_setCell_same _ _ _ _ _ _ hT, hO.1, ?_⟩
  rcases hO.2 with h | ⟨g, cap, cur, e, hb, hg, r⟩
  · exact .inl h
  · refine .inr ⟨g, cap, cur, e, hb, ?_, r⟩
    rw [heap_setCell_other _ _ _ _ ?_]
    · exact hg
    · intro e'
      simp only at e'
      subst e'
      rw [hT] at hg
      simp at hg

set_option maxHeartbeats 400000 in
theorem yield_all (p T base : Nat) (L : List Nat) (w : World) (h : Got w T base L) (hL : L.length ≤ 100000) (hbase : base ≤ w.heap.size) :
    Calls Yba.prog 9 #[.int .i64 (p : Int), .pointer (some ⟨T, 0, none⟩)] w fun e w' => e = .returned (.bool true) ∧ Got w' T base (L ++ [p]) ∧ Keep T base w w' := by
  obtain ⟨v, hT, hO⟩ := h
  obtain ⟨a, c, rfl⟩ := hO.shape
  have hTl := (Array.getElem?_eq_some_iff.1 hT).1
  have cT := cell_of_row w T 0 _ _ _ hT
  go_enter Yba.func9, Yba.ntmps9
  go_wp2_with (first
    | (at_builtin; refine Hid.out ?_)
    | fail)
  unfold Hid
  generalize hW : World.alloc _ _ = W
  have hB : Below w.heap.size w W := by rw [← hW]; exact below_alloc _ _
  have hnb : W.heap[w.heap.size]? = some (.cells #[.int .i64 (p : Int)] 3 (0, 0)) := by rw [← hW]; exact heap1a _ _
  have hTW := (hB.block T hTl).trans hT
  have hOW : OInts W base (.slice a L.length c) L := owns_below hO hB
  clear hW cT
  refine iapp rfl (.tmp 4) (.tmp 6) rfl (v := .slice a L.length c) rfl hOW rfl hnb (by omega) (by have := hB.size; omega) ?_
  rintro v' w1 hO1 ⟨a1, c1, rfl⟩ hg _
  have hT1 : w1.heap[T]? = some (.cells #[.slice a L.length c] 24 (0, 0)) := (hg.block T (by have := hB.size; omega) (owns_ne_block hOW hTW (by decide))).trans hTW
  have c1' := cell_of_row w1 T 0 _ _ _ hT1
  have f1' := frozen_of_row w1 T 0 _ _ hT1
  have hK : Keep T base w w1 := (Keep.below hB).trans (keep_app hOW hg)
  have hG := got_store hT1 hO1
  clear hg hnb hTW hOW hB hT hO
  go_wp2
  go_ret
  exact ⟨rfl, hG, keep_store hK _ _⟩

set_option maxHeartbeats 400000 in
theorem yield_stop (p T S base stop : Nat) (L : List Nat) (w : World) (h : Got w T base L) (hS : w.heap[S]? = some (.cells #[.int .i64 (stop : Int)] 3 (0, 0))) (hSb : S < base) (hST : S ≠ T) (hL : L.length ≤ 100000) (hbase : base ≤ w.heap.size) :
    Calls Yba.prog 11 #[.int .i64 (p : Int), .pointer (some ⟨T, 0, none⟩), .pointer (some ⟨S, 0, none⟩)] w fun e w' => e = .returned (.bool (decide (L.length + 1 < stop))) ∧ Got w' T base (L ++ [p]) ∧ Keep T base w w' := by
  obtain ⟨v, hT, hO⟩ := h
  obtain ⟨a, c, rfl⟩ := hO.shape
  have hTl := (Array.getElem?_eq_some_iff.1 hT).1
  have cT := cell_of_row w T 0 _ _ _ hT
  go_enter Yba.func11, Yba.ntmps11
  go_wp2_with (first
    | (at_builtin; refine Hid.out ?_)
    | fail)
  unfold Hid
  generalize hW : World.alloc _ _ = W
  have hB : Below w.heap.size w W := by rw [← hW]; exact below_alloc _ _
  have hnb : W.heap[w.heap.size]? = some (.cells #[.int .i64 (p : Int)] 3 (0, 0)) := by rw [← hW]; exact heap1a _ _
  have hTW := (hB.block T hTl).trans hT
  have hOW : OInts W base (.slice a L.length c) L := owns_below hO hB
  clear hW cT
  refine iapp rfl (.tmp 5) (.tmp 7) rfl (v := .slice a L.length c) rfl hOW rfl hnb (by omega) (by have := hB.size; omega) ?_
  rintro v' w1 hO1 ⟨a1, c1, rfl⟩ hg _
  have hT1 : w1.heap[T]? = some (.cells #[.slice a L.length c] 24 (0, 0)) := (hg.block T (by have := hB.size; omega) (owns_ne_block hOW hTW (by decide))).trans hTW
  have hK : Keep T base w w1 := (Keep.below hB).trans (keep_app hOW hg)
  have hG := got_store hT1 hO1
  have hS1 : w1.heap[S]? = some (.cells #[.int .i64 (stop : Int)] 3 (0, 0)) := (hK.2.2.2.2 S (by omega) hST (.inl hSb)).trans hS
  have c1' := cell_of_row w1 T 0 _ _ _ hT1
  have f1' := frozen_of_row w1 T 0 _ _ hT1
  have c2' : (w1.setCell ⟨T, 0, none⟩ (.slice a1 (L.length + 1) c1)).cell? ⟨T, 0, none⟩ = some (.slice a1 (L.length + 1) c1) := cell_of_row _ T 0 _ _ _ (heap_setCell_same _ _ _ _ _ _ hT1)
  have c3' : (w1.setCell ⟨T, 0, none⟩ (.slice a1 (L.length + 1) c1)).cell? ⟨S, 0, none⟩ = some (.int .i64 (stop : Int)) := cell_of_row _ S 0 _ _ _ ((heap_setCell_other _ _ _ _ hST).trans hS1)
  clear hg hnb hTW hOW hB hT hO hS1 hS
  go_wp2
  go_ret
  refine ⟨?_, hG, keep_store hK _ _⟩
  have e : decide ((L.length : Int) + 1 < (stop : Int)) = decide (L.length + 1 < stop) := by
    rw [decide_eq_decide]
    omega
  show Ending.returned (.bool (decide ((L.length : Int) + 1 < (stop : Int)))) = _
  rw [e]

end Go.Proofs.Ybulkcryc
