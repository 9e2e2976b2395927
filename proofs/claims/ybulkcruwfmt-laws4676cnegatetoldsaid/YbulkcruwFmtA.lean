import Derived.Test.YbulkcruwFmtRows
import Derived.WalkKit
import Derived.Deep.QuietTactic
import Derived.BigQuiet
import Derived.ChangeKeysEq
namespace Go.Proofs.YbulkcruwFmt
open Go.RowKit

/-- Nothing but the cells of block b has turned. -/
structure Only (b : Nat) (w w' : World) : Prop where
  os : w'.os = w.os
  tape : w'.tape = w.tape
  output : w'.output = w.output
  size : w'.heap.size = w.heap.size
  block : ∀ k, k ≠ b → w'.heap[k]? = w.heap[k]?
  frozen : ∀ o, w'.frozen? ⟨b, o, none⟩ = w.frozen? ⟨b, o, none⟩

theorem Only.refl (b : Nat) (w : World) : Only b w w := ⟨rfl, rfl, rfl, rfl, fun _ _ => rfl, fun _ => rfl⟩
theorem Only.trans {b : Nat} {a c d : World} (h : Only b a c) (k : Only b c d) : Only b a d :=
  ⟨k.os.trans h.os, k.tape.trans h.tape, k.output.trans h.output, k.size.trans h.size, fun i hi => (k.block i hi).trans (h.block i hi), fun o => (k.frozen o).trans (h.frozen o)⟩
theorem Only.drewN {b : Nat} {a c : World} (h : Only b a c) (n : Nat) : Only b a (c.drewN n) := ⟨h.os, h.tape, h.output, h.size, h.block, h.frozen⟩

theorem Only.setCell {b : Nat} {a c : World} (h : Only b a c) (o : Nat) (v : Value) : Only b a (c.setCell ⟨b, o, none⟩ v) :=
  h.trans ⟨rfl, rfl, rfl, by simp [World.setCell], fun k hk => Below.heap_setCell _ _ _ _ hk, fun o' => by simp⟩

theorem step_done {b k nq : Nat} {wr : World} {u v : Value} {g : Nat → Value} (hk : wr.cell? ⟨b, k, none⟩ = some u) (h1 : ∀ j, j < k → wr.cell? ⟨b, j, none⟩ = some (g j)) (hv : v = g k := by rfl) :
    ∀ j, j < k + 1 → ((wr.drewN nq).setCell ⟨b, k, none⟩ v).cell? ⟨b, j, none⟩ = some (g j) := by
  intro j hj
  by_cases e : j = k
  · subst e; rw [World.cell?_setCell_same _ _ _ (u := u) (by simpa using hk), hv]
  · rw [World.cell?_setCell_other _ _ _ _ (by simp only [ne_eq, Addr.mk.injEq]; omega)]; exact h1 j (by omega)
theorem step_rest {b k n nq : Nat} {wr : World} {v : Value} {g : Nat → Value} (h2 : ∀ j, k ≤ j → j < n → wr.cell? ⟨b, j, none⟩ = some (g j)) :
    ∀ j, k + 1 ≤ j → j < n → ((wr.drewN nq).setCell ⟨b, k, none⟩ v).cell? ⟨b, j, none⟩ = some (g j) := by
  intro j hj hn
  rw [World.cell?_setCell_other _ _ _ _ (by simp only [ne_eq, Addr.mk.injEq]; omega)]; exact h2 j (by omega) hn

set_option maxHeartbeats 400000 in
theorem negate_ok (b : Nat) (f : Nat → Int) (w : World) (hc : ∀ i, i < 7 → w.cell? ⟨b, i, none⟩ = some (.int .i64 (f i))) (hf : ∀ i, i < 7 → w.frozen? ⟨b, i, none⟩ = false)
    (hlo : ∀ i, i < 7 → -9223372036854775807 ≤ f i) (hhi : ∀ i, i < 7 → f i ≤ 9223372036854775807) :
    Calls Ybaf.prog 5 #[.pointer (some ⟨b, 0, none⟩)] w fun e w' => e = .returned .nilIface ∧ Only b w w' ∧ (∀ i, i < 7 → w'.cell? ⟨b, i, none⟩ = some (.int .i64 (-(f i)))) := by
  go_enter Ybaf.func5, Ybaf.ntmps5
  go_wp2
  go_loopw [6] (fun i wr => ∃ k : Nat, k ≤ 7 ∧ i = .int .i64 k ∧ Only b w wr ∧ (∀ j, j < k → wr.cell? ⟨b, j, none⟩ = some (.int .i64 (-(f j)))) ∧ (∀ j, k ≤ j → j < 7 → wr.cell? ⟨b, j, none⟩ = some (.int .i64 (f j)))) (fun i _ => 7 - (intOf i).toNat)
  case atStart => exact ⟨0, by omega, rfl, Only.refl _ _, by intro j hj; omega, fun j _ hj => hc j hj⟩
  case round =>
    obtain ⟨k, hk, rfl, ho, h1, h2⟩ := hrel
    by_cases hlt : k < 7
    · have g := h2 k (by omega) hlt
      have gz : wr.frozen? ⟨b, k, none⟩ = false := (ho.frozen k).trans (hf k hlt)
      have gl := hlo k hlt
      have gh := hhi k hlt
      have ge : (f k == -9223372036854775808) = false := beq_eq_false_iff_ne.2 (by omega)
      go_wp2
      go_quiet (fail)
      go_wp2
      exact ⟨⟨k + 1, by omega, by go_num, (ho.drewN nq).setCell _ _, step_done g h1, step_rest h2⟩, by simp [intOf]; omega⟩
    · go_wp2
      go_ret
      exact ⟨rfl, ho, fun i hi => h1 i (by omega)⟩

/-- The seven cells of block b hold g's numbers, none of them frozen. -/
structure Arr (w : World) (b : Nat) (g : Nat → Int) : Prop where
  cell : ∀ j, j < 7 → w.cell? ⟨b, j, none⟩ = some (.int .i64 (g j))
  free : ∀ j, j < 7 → w.frozen? ⟨b, j, none⟩ = false

def nums (a0 a1 a2 a3 a4 a5 a6 : Int) (i : Nat) : Int := [a0, a1, a2, a3, a4, a5, a6].getD i 0

theorem arr_new (a0 a1 a2 a3 a4 a5 a6 : Int) (W : World) : Arr (W.alloc (.cells #[.int .i64 a0, .int .i64 a1, .int .i64 a2, .int .i64 a3, .int .i64 a4, .int .i64 a5, .int .i64 a6] 22)) W.heap.size (nums a0 a1 a2 a3 a4 a5 a6) := by
  refine ⟨fun j hj => ?_, fun j _ => World.frozen?_alloc_new _ _ _ _⟩
  rw [World.cell?_alloc_new]
  match j, hj with
  | 0, _ | 1, _ | 2, _ | 3, _ | 4, _ | 5, _ | 6, _ => rfl
  | n + 7, h => omega

theorem arr_new' (g : Nat → Int) (W : World) : Arr (W.alloc (.cells #[.int .i64 (g 0), .int .i64 (g 1), .int .i64 (g 2), .int .i64 (g 3), .int .i64 (g 4), .int .i64 (g 5), .int .i64 (g 6)] 22)) W.heap.size g := by
  refine ⟨fun j hj => ?_, fun j _ => World.frozen?_alloc_new _ _ _ _⟩
  rw [World.cell?_alloc_new]
  match j, hj with
  | 0, _ | 1, _ | 2, _ | 3, _ | 4, _ | 5, _ | 6, _ => rfl
  | n + 7, h => omega

theorem Arr.alloc {w : World} {b : Nat} {g : Nat → Int} (h : Arr w b g) (o : Obj) : Arr (w.alloc o) b g := by
  have hb : b < w.heap.size := World.block_lt_of_cell? _ _ (h.cell 0 (by omega))
  exact ⟨fun j hj => by rw [World.cell?_alloc_lt w o ⟨b, j, none⟩ hb]; exact h.cell j hj, fun j hj => by rw [World.frozen?_alloc_old w o ⟨b, j, none⟩ (Nat.ne_of_lt hb)]; exact h.free j hj⟩

theorem Arr.only {w w' : World} {b c : Nat} {g : Nat → Int} (h : Arr w b g) (ho : Only c w w') (hc : b ≠ c) : Arr w' b g :=
  ⟨fun j hj => by rw [World.cell?_of_block (w := w) (ho.block b hc)]; exact h.cell j hj, fun j hj => by rw [World.frozen?_of_block (w := w) (ho.block b hc)]; exact h.free j hj⟩

theorem Only.below {B b : Nat} {a w w' : World} (h : Below B a w) (ho : Only b w w') (hb : B ≤ b) : Below B a w' :=
  h.trans ⟨ho.os, ho.tape, ho.output, Nat.le_of_eq ho.size.symm, fun k hk => ho.block k (by omega)⟩

theorem arr_set {w : World} {b k : Nat} {g : Nat → Int} (h : Arr w b g) (hk : k < 7) (v : Int) : Arr (w.setCell ⟨b, k, none⟩ (.int .i64 v)) b (fun j => if j = k then v else g j) := by
  refine ⟨fun j hj => ?_, fun j hj => by simpa using h.free j hj⟩
  by_cases e : j = k
  · subst e; rw [World.cell?_setCell_same _ _ _ (h.cell j hj), if_pos rfl]
  · rw [World.cell?_setCell_other _ _ _ _ (by simp only [ne_eq, Addr.mk.injEq]; omega), if_neg e]; exact h.cell j hj

theorem info3 : (Ybaf.prog.info? 3).isSome = true := by kernel_rfl
theorem cells3 : Ybaf.prog.cellsOf 3 = 1 := by kernel_rfl
theorem eq7 (x0 x1 x2 x3 x4 x5 x6 : Int) (w : World) : (Op.equalIn 10000 22 (.agg #[.int .i64 x0, .int .i64 x1, .int .i64 x2, .int .i64 x3, .int .i64 x4, .int .i64 x5, .int .i64 x6]) (.agg #[.int .i64 x0, .int .i64 x1, .int .i64 x2, .int .i64 x3, .int .i64 x4, .int .i64 x5, .int .i64 x6])).run Ybaf.prog w = .ok true w := by
  obtain ⟨i, hi⟩ := Option.isSome_iff_exists.1 info3
  rw [run_equalIn_array w 9999 _ _ Ybaf.underlying22 hi, cells3]
  have hr : List.range 7 = [0, 1, 2, 3, 4, 5, 6] := by decide
  rw [hr]
  have he : ∀ x : Int, (Op.equalIn 9999 3 (.int .i64 x) (.int .i64 x)).run Ybaf.prog w = .ok true w := fun x => by rw [run_equalIn_int w 9998 3 .i64 .i64 x x Ybaf.underlying3]; simp
  simp [Op.eqItems, part, isAgg, run_underlying Ybaf.underlying3, he]

set_option maxHeartbeats 800000 in
set_option maxRecDepth 100000 in
theorem twice_walk (a0 a1 a2 a3 a4 a5 a6 : Int) (w : World) (hlo : ∀ i, i < 7 → -9223372036854775808 ≤ nums a0 a1 a2 a3 a4 a5 a6 i) (hhi : ∀ i, i < 7 → nums a0 a1 a2 a3 a4 a5 a6 i ≤ 9223372036854775807) :
    Calls Ybaf.prog 4 #[.agg #[.int .i64 a0, .int .i64 a1, .int .i64 a2, .int .i64 a3, .int .i64 a4, .int .i64 a5, .int .i64 a6]] w fun e w' => e = .returned (.bool true) ∧ Below w.heap.size w w' := by
  go_enter Ybaf.func4, Ybaf.ntmps4
  go_wp2
  go_loopw [4] (fun i wr => ∃ (k : Nat) (g : Nat → Int), k ≤ 7 ∧ i = .int .i64 k ∧ Below w.heap.size w wr ∧ wr.heap.size = w.heap.size + 2 ∧ Arr wr (w.heap.size + 1) g ∧ (∀ j, j < k → -9223372036854775807 ≤ g j) ∧ (∀ j, j < 7 → -9223372036854775808 ≤ g j) ∧ (∀ j, j < 7 → g j ≤ 9223372036854775807)) (fun i _ => 7 - (intOf i).toNat)
  case atStart =>
    have h := arr_new a0 a1 a2 a3 a4 a5 a6 (w.alloc (.cells #[.int .i64 a0, .int .i64 a1, .int .i64 a2, .int .i64 a3, .int .i64 a4, .int .i64 a5, .int .i64 a6] 22))
    exact ⟨0, _, by omega, rfl, ((Below.refl _ _).alloc (Nat.le_refl _) _).alloc (by simp) _, by simp, by simpa using h, by intro j hj; omega, hlo, hhi⟩
  case round =>
    obtain ⟨k, g, hk, rfl, hb, hsz, ha, h1, h2, h3⟩ := hrel
    by_cases hlt : k < 7
    · have gc := ha.cell k hlt
      have gz := ha.free k hlt
      by_cases hm : g k = -9223372036854775808
      · have hm' : (g k == -9223372036854775808) = true := beq_iff_eq.2 hm
        clear hm
        go_wp2
        refine ⟨⟨k + 1, fun j => if j = k then 0 else g j, by omega, by go_num, hb.setCell (by simp) _, by simpa using hsz, arr_set ha hlt 0, ?_, ?_, ?_⟩, by simp [intOf]; omega⟩
        · intro j hj; dsimp only; split
          · omega
          · exact h1 j (by omega)
        · intro j hj; dsimp only; split
          · omega
          · exact h2 j (by omega)
        · intro j hj; dsimp only; split
          · omega
          · exact h3 j (by omega)
      · have hm' : (g k == -9223372036854775808) = false := beq_eq_false_iff_ne.2 hm
        have hm2 := h2 k hlt
        go_wp2
        refine ⟨⟨k + 1, g, by omega, by go_num, hb, hsz, ha, ?_, h2, h3⟩, by simp [intOf]; omega⟩
        intro j hj
        by_cases e : j = k
        · subst e; omega
        · exact h1 j (by omega)
    · have gc0 := ha.cell 0 (by omega)
      have gc1 := ha.cell 1 (by omega)
      have gc2 := ha.cell 2 (by omega)
      have gc3 := ha.cell 3 (by omega)
      have gc4 := ha.cell 4 (by omega)
      have gc5 := ha.cell 5 (by omega)
      have gc6 := ha.cell 6 (by omega)
      go_wp2_with fail
      generalize hW : wr.alloc _ = W
      have hb' : Below w.heap.size w W := by subst hW; exact hb.alloc (by omega) _
      have hz' : W.heap.size = w.heap.size + 3 := by subst hW; simp [hsz]
      have A1 : Arr W (w.heap.size + 1) g := by subst hW; exact ha.alloc _
      have A2 : Arr W (w.heap.size + 2) g := by subst hW; have := arr_new' g wr; rw [hsz] at this; exact this
      clear hW gc0 gc1 gc2 gc3 gc4 gc5 gc6 ha hb hsz
      have h7 : ∀ j, j < 7 → -9223372036854775807 ≤ g j := fun j hj => h1 j (by omega)
      clear h1
      refine (negate_ok (w.heap.size + 1) g W A1.cell A1.free h7 h3).mono ?_
      rintro e w1 ⟨rfl, ho, hc⟩
      have A3 : Arr w1 (w.heap.size + 1) (fun j => -(g j)) := ⟨hc, fun j hj => (ho.frozen j).trans (A1.free j hj)⟩
      have A4 : Arr w1 (w.heap.size + 2) g := A2.only ho (by omega)
      have hb1 : Below w.heap.size w w1 := Only.below hb' ho (by omega)
      clear A1 A2 ho hc hb'
      go_wp2_with fail
      go_loopw [6] (fun i wr => ∃ (k n : Nat), k ≤ 7 ∧ i = .int .i64 k ∧ wr = w1.drewN n) (fun i _ => 7 - (intOf i).toNat)
      case atStart => exact ⟨0, 0, by omega, rfl, rfl⟩
      case round =>
        obtain ⟨k', n, hk', rfl, rfl⟩ := hrel
        by_cases hlt' : k' < 7
        · have c3 := A3.cell k' hlt'
          have c4 := A4.cell k' hlt'
          have l1 := h7 k' hlt'
          have l2 := h3 k' hlt'
          by_cases hz0 : g k' = 0
          · have hz1 : (g k' != 0) = false := by simp [hz0]
            clear hz0
            go_wp2
            go_quiet (fail)
            go_wp2
            exact ⟨⟨k' + 1, n + nq, by omega, by go_num, rfl⟩, by simp [intOf]; omega⟩
          · have hz1 : (g k' != 0) = true := by simp [hz0]
            have hz2 : (-(g k') == g k') = false := beq_eq_false_iff_ne.2 (by omega)
            clear hz0
            go_wp2
            go_quiet (fail)
            go_wp2
            exact ⟨⟨k' + 1, n + nq, by omega, by go_num, rfl⟩, by simp [intOf]; omega⟩
        · go_wp2_with fail
          refine (negate_ok (w.heap.size + 1) (fun j => -(g j)) (w1.drewN n) A3.cell A3.free (fun j hj => by have := h3 j hj; omega) (fun j hj => by have := h7 j hj; omega)).mono ?_
          rintro e w2 ⟨rfl, ho, hc⟩
          have A5 : Arr w2 (w.heap.size + 1) g := ⟨fun j hj => by rw [hc j hj, Int.neg_neg], fun j hj => (ho.frozen j).trans (A3.free j hj)⟩
          have A6 : Arr w2 (w.heap.size + 2) g := Arr.only (w := w1.drewN n) ⟨A4.cell, A4.free⟩ ho (by omega)
          have hb2 : Below w.heap.size w w2 := Only.below (w := w1.drewN n) ⟨hb1.os, hb1.tape, hb1.output, hb1.size, hb1.block⟩ ho (by omega)
          clear A3 A4 ho hc hb1 h7 h3 h2
          have x0 := A5.cell 0 (by omega)
          have x1 := A5.cell 1 (by omega)
          have x2 := A5.cell 2 (by omega)
          have x3 := A5.cell 3 (by omega)
          have x4 := A5.cell 4 (by omega)
          have x5 := A5.cell 5 (by omega)
          have x6 := A5.cell 6 (by omega)
          have y0 := A6.cell 0 (by omega)
          have y1 := A6.cell 1 (by omega)
          have y2 := A6.cell 2 (by omega)
          have y3 := A6.cell 3 (by omega)
          have y4 := A6.cell 4 (by omega)
          have y5 := A6.cell 5 (by omega)
          have y6 := A6.cell 6 (by omega)
          have heq := eq7 (g 0) (g 1) (g 2) (g 3) (g 4) (g 5) (g 6)
          go_wp2
          go_ret
          exact ⟨rfl, hb2⟩

end Go.Proofs.YbulkcruwFmt
