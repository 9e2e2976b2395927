import Derived.Test.YbulkcrtuA
namespace Go.Proofs.Ybulkcrtu
open Go.RowKit

def timeV (d : Int) : Value := .agg #[.int .u64 d, .int .i64 0, .pointer none]
theorem info118 : (Yba.prog.info? 118).map (·.size) = some 3 := by kernel_rfl
theorem and30 : ∀ d : Nat, d ≤ 5 → bits .and .u64 (d : Int) 1073741823 = (d : Int) := by decide +kernel
theorem and63 : ∀ d : Nat, d ≤ 5 → bits .and .u64 (d : Int) 9223372036854775808 = 0 := by decide +kernel
theorem or0 : ∀ d : Nat, d ≤ 5 → bits .or .u64 0 (d : Int) = (d : Int) := by decide +kernel
theorem andNot0 : bits .andNot .u64 0 1073741823 = 0 := by decide +kernel
theorem and00 : bits .and .u64 0 1073741823 = 0 := by decide +kernel
theorem and63d : ∀ d : Nat, d ≤ 5 → bits .and .u64 (bits .and .u64 (d : Int) (d : Int)) 9223372036854775808 = 0 := by decide +kernel

theorem nsec_any (b d : Nat) (hd : d ≤ 5) (w : World) (hc : w.cell? ⟨b, 0, none⟩ = some (.int .u64 (d : Int))) : Calls Yba.prog 27 #[.pointer (some ⟨b, 0, none⟩)] w fun e w' => e = .returned (.int .i32 (d : Int)) ∧ w' = w := by
  have h1 := and30 d hd
  have h2 : wrap32 (d : Int) = (d : Int) := by unfold wrap32; omega
  go_enter Yba.func27, Yba.ntmps27
  go_wp2
  go_ret
  exact ⟨rfl, rfl⟩
theorem sec_any (b d : Nat) (hd : d ≤ 5) (x : Int) (w : World) (hc : w.cell? ⟨b, 0, none⟩ = some (.int .u64 (d : Int))) (hx : w.cell? ⟨b, 1, none⟩ = some (.int .i64 x)) : Calls Yba.prog 36 #[.pointer (some ⟨b, 0, none⟩)] w fun e w' => e = .returned (.int .i64 x) ∧ w' = w := by
  have h1 := and63 d hd
  go_enter Yba.func36, Yba.ntmps36
  go_wp2
  go_ret
  exact ⟨rfl, rfl⟩
theorem addSec0 (b d : Nat) (hd : d ≤ 5) (w : World) (hc : w.cell? ⟨b, 0, none⟩ = some (.int .u64 (d : Int))) (hx : w.cell? ⟨b, 1, none⟩ = some (.int .i64 0)) (hf : w.frozen? ⟨b, 1, none⟩ = false) : Calls Yba.prog 28 #[.pointer (some ⟨b, 0, none⟩), .int .i64 0] w fun e w' => e = .returned (.tuple #[]) ∧ w' = w.setCell ⟨b, 1, none⟩ (.int .i64 0) := by
  have h1 := and63 d hd
  go_enter Yba.func28, Yba.ntmps28
  go_wp2
  go_end0
  exact ⟨rfl, rfl⟩
set_option maxHeartbeats 1000000 in
theorem add1 (w : World) : Calls Yba.prog 14 #[timeV 0, .int .i64 1] w fun e w' => e = .returned (timeV 1) ∧ Below w.heap.size w w' := by
  have e1 : bits .and .u64 1 9223372036854775808 = 0 := and63 1 (by omega)
  have e2 : bits .or .u64 0 1 = 1 := or0 1 (by omega)
  have e3 := andNot0
  have e8 : wrap32 1 = 1 := by unfold wrap32; omega
  have e9 : IntKind.u64.wrap 1 = 1 := by simp only [IntKind.wrap, IntKind.bits, IntKind.signed]; simp
  unfold timeV
  go_enter Yba.func14, Yba.ntmps14
  go_upto_region 2 with fail
  obtain ⟨N, hN⟩ : ∃ N, N = w.heap.size := ⟨_, rfl⟩
  generalize hW : World.alloc _ _ = W
  have hB : Below w.heap.size w W := by rw [← hW]; exact below_al0 (below_al0 (Below.refl _ _))
  have hN0 : W.heap[N]? = some (.cells #[.int .u64 0, .int .i64 0, .pointer none] 118 (0, 0)) := by rw [← hW, hN]; exact heap2a _ _ _
  have hN1 : W.heap[N + 1]? = some (.cells #[.int .u64 0, .int .i64 0, .pointer none] 118 (0, 0)) := by rw [← hW, hN]; exact heap2b _ _ _
  have hNw : w.heap.size ≤ N := by omega
  rw [← hN]
  clear hW hN
  have c0 := cell_of_row W N 0 _ _ _ hN0
  have c1 := cell_of_row W N 1 _ _ _ hN0
  have c2 := cell_of_row W N 2 _ _ _ hN0
  have f0 := frozen_of_row W N 0 _ _ hN0
  have f1 := frozen_of_row W N 1 _ _ hN0
  have hns : Calls Yba.prog 27 #[.pointer (some ⟨N, 0, none⟩)] W fun e w' => e = .returned (.int .i32 0) ∧ w' = W := nsec_any N 0 (by omega) W c0
  go_upto_region 10 with (go_at_call 27; refine hns.mono ?_; rintro e w' ⟨rfl, hw'⟩; subst hw')
  obtain ⟨X, hX⟩ : ∃ X, X = w'.setCell ⟨N, 0, none⟩ (.int .u64 1) := ⟨_, rfl⟩
  have hX0 : X.heap[N]? = some (.cells #[.int .u64 1, .int .i64 0, .pointer none] 118 (0, 0)) := by rw [hX]; exact heap_setCell_same _ _ _ _ _ _ hN0
  have hX1 : X.heap[N + 1]? = some (.cells #[.int .u64 0, .int .i64 0, .pointer none] 118 (0, 0)) := by rw [hX]; exact (heap_setCell_other _ _ _ _ (by simp)).trans hN1
  have hBX : Below w.heap.size w X := by rw [hX]; exact hB.setCell (by show w.heap.size ≤ N; omega) _
  rw [← hX]
  clear hX hns c0 c1 c2 f0 f1 hN0 hN1 hB
  have has := addSec0 N 1 (by omega) X (cell_of_row X N 0 _ _ _ hX0) (cell_of_row X N 1 _ _ _ hX0) (frozen_of_row X N 1 _ _ hX0)
  obtain ⟨Y, hY⟩ : ∃ Y, Y = X.setCell ⟨N, 1, none⟩ (.int .i64 0) := ⟨_, rfl⟩
  rw [← hY] at has
  have hY0 : Y.heap[N]? = some (.cells #[.int .u64 1, .int .i64 0, .pointer none] 118 (0, 0)) := by rw [hY]; exact heap_setCell_same _ _ _ _ _ _ hX0
  have hY1 : Y.heap[N + 1]? = some (.cells #[.int .u64 0, .int .i64 0, .pointer none] 118 (0, 0)) := by rw [hY]; exact (heap_setCell_other _ _ _ _ (by simp)).trans hX1
  have hBY : Below w.heap.size w Y := by rw [hY]; exact hBX.setCell (by show w.heap.size ≤ N; omega) _
  clear hY hX0 hX1 hBX
  have c0 := cell_of_row Y N 0 _ _ _ hY0
  have c1 := cell_of_row Y N 1 _ _ _ hY0
  have c2 := cell_of_row Y N 2 _ _ _ hY0
  have d0 := cell_of_row Y (N + 1) 0 _ _ _ hY1
  have d1 := cell_of_row Y (N + 1) 1 _ _ _ hY1
  have d2 := cell_of_row Y (N + 1) 2 _ _ _ hY1
  have g0 := frozen_of_row Y (N + 1) 0 _ _ hY1
  have g1 := frozen_of_row Y (N + 1) 1 _ _ hY1
  have g2 := frozen_of_row Y (N + 1) 2 _ _ hY1
  have hth : Y.there (N + 1) 0 3 := fun j hj => ⟨by rw [cell_of_row _ _ _ _ _ _ hY1, Array.getElem?_eq_getElem (by simp; omega)]; rfl, frozen_of_row _ _ _ _ _ hY1⟩
  go_wp2_with (first
    | (go_at_call 28; refine has.mono ?_; rintro e w2 ⟨rfl, hw2⟩; subst hw2)
    | (refine wpList_store_mid rfl 118 (.tmp 4) (.tmp 65) rfl (N + 1) 0 #[.int .u64 1, .int .i64 0, .pointer none] rfl rfl hth info118 rfl ?_)
    | fail)
  refine bodyPost_ret (results_cell_row rfl _ _ (N + 1) 118 #[.int .u64 1, .int .i64 0, .pointer none] (0, 0) _ rfl ?_ Yba.underlying118 rfl info118) rfl ?_
  · exact heap_setCell_same _ _ _ _ _ _ (heap_setCell_same _ _ _ _ _ _ (heap_setCell_same _ _ _ _ _ _ hY1))
  · exact ⟨rfl, ((hBY.setCell (by show w.heap.size ≤ N + 1; omega) _).setCell (by show w.heap.size ≤ N + 1; omega) _).setCell (by show w.heap.size ≤ N + 1; omega) _⟩

set_option maxHeartbeats 1000000 in
theorem add2 (w : World) : Calls Yba.prog 14 #[timeV 0, .int .i64 2] w fun e w' => e = .returned (timeV 2) ∧ Below w.heap.size w w' := by
  have e1 : bits .and .u64 2 9223372036854775808 = 0 := and63 2 (by omega)
  have e2 : bits .or .u64 0 2 = 2 := or0 2 (by omega)
  have e3 := andNot0
  have e8 : wrap32 2 = 2 := by unfold wrap32; omega
  have e9 : IntKind.u64.wrap 2 = 2 := by simp only [IntKind.wrap, IntKind.bits, IntKind.signed]; simp
  unfold timeV
  go_enter Yba.func14, Yba.ntmps14
  go_upto_region 2 with fail
  obtain ⟨N, hN⟩ : ∃ N, N = w.heap.size := ⟨_, rfl⟩
  generalize hW : World.alloc _ _ = W
  have hB : Below w.heap.size w W := by rw [← hW]; exact below_al0 (below_al0 (Below.refl _ _))
  have hN0 : W.heap[N]? = some (.cells #[.int .u64 0, .int .i64 0, .pointer none] 118 (0, 0)) := by rw [← hW, hN]; exact heap2a _ _ _
  have hN1 : W.heap[N + 1]? = some (.cells #[.int .u64 0, .int .i64 0, .pointer none] 118 (0, 0)) := by rw [← hW, hN]; exact heap2b _ _ _
  have hNw : w.heap.size ≤ N := by omega
  rw [← hN]
  clear hW hN
  have c0 := cell_of_row W N 0 _ _ _ hN0
  have c1 := cell_of_row W N 1 _ _ _ hN0
  have c2 := cell_of_row W N 2 _ _ _ hN0
  have f0 := frozen_of_row W N 0 _ _ hN0
  have f1 := frozen_of_row W N 1 _ _ hN0
  have hns : Calls Yba.prog 27 #[.pointer (some ⟨N, 0, none⟩)] W fun e w' => e = .returned (.int .i32 0) ∧ w' = W := nsec_any N 0 (by omega) W c0
  go_upto_region 10 with (go_at_call 27; refine hns.mono ?_; rintro e w' ⟨rfl, hw'⟩; subst hw')
  obtain ⟨X, hX⟩ : ∃ X, X = w'.setCell ⟨N, 0, none⟩ (.int .u64 2) := ⟨_, rfl⟩
  have hX0 : X.heap[N]? = some (.cells #[.int .u64 2, .int .i64 0, .pointer none] 118 (0, 0)) := by rw [hX]; exact heap_setCell_same _ _ _ _ _ _ hN0
  have hX1 : X.heap[N + 1]? = some (.cells #[.int .u64 0, .int .i64 0, .pointer none] 118 (0, 0)) := by rw [hX]; exact (heap_setCell_other _ _ _ _ (by simp)).trans hN1
  have hBX : Below w.heap.size w X := by rw [hX]; exact hB.setCell (by show w.heap.size ≤ N; omega) _
  rw [← hX]
  clear hX hns c0 c1 c2 f0 f1 hN0 hN1 hB
  have has := addSec0 N 2 (by omega) X (cell_of_row X N 0 _ _ _ hX0) (cell_of_row X N 1 _ _ _ hX0) (frozen_of_row X N 1 _ _ hX0)
  obtain ⟨Y, hY⟩ : ∃ Y, Y = X.setCell ⟨N, 1, none⟩ (.int .i64 0) := ⟨_, rfl⟩
  rw [← hY] at has
  have hY0 : Y.heap[N]? = some (.cells #[.int .u64 2, .int .i64 0, .pointer none] 118 (0, 0)) := by rw [hY]; exact heap_setCell_same _ _ _ _ _ _ hX0
  have hY1 : Y.heap[N + 1]? = some (.cells #[.int .u64 0, .int .i64 0, .pointer none] 118 (0, 0)) := by rw [hY]; exact (heap_setCell_other _ _ _ _ (by simp)).trans hX1
  have hBY : Below w.heap.size w Y := by rw [hY]; exact hBX.setCell (by show w.heap.size ≤ N; omega) _
  clear hY hX0 hX1 hBX
  have c0 := cell_of_row Y N 0 _ _ _ hY0
  have c1 := cell_of_row Y N 1 _ _ _ hY0
  have c2 := cell_of_row Y N 2 _ _ _ hY0
  have d0 := cell_of_row Y (N + 1) 0 _ _ _ hY1
  have d1 := cell_of_row Y (N + 1) 1 _ _ _ hY1
  have d2 := cell_of_row Y (N + 1) 2 _ _ _ hY1
  have g0 := frozen_of_row Y (N + 1) 0 _ _ hY1
  have g1 := frozen_of_row Y (N + 1) 1 _ _ hY1
  have g2 := frozen_of_row Y (N + 1) 2 _ _ hY1
  have hth : Y.there (N + 1) 0 3 := fun j hj => ⟨by rw [cell_of_row _ _ _ _ _ _ hY1, Array.getElem?_eq_getElem (by simp; omega)]; rfl, frozen_of_row _ _ _ _ _ hY1⟩
  go_wp2_with (first
    | (go_at_call 28; refine has.mono ?_; rintro e w2 ⟨rfl, hw2⟩; subst hw2)
    | (refine wpList_store_mid rfl 118 (.tmp 4) (.tmp 65) rfl (N + 1) 0 #[.int .u64 2, .int .i64 0, .pointer none] rfl rfl hth info118 rfl ?_)
    | fail)
  refine bodyPost_ret (results_cell_row rfl _ _ (N + 1) 118 #[.int .u64 2, .int .i64 0, .pointer none] (0, 0) _ rfl ?_ Yba.underlying118 rfl info118) rfl ?_
  · exact heap_setCell_same _ _ _ _ _ _ (heap_setCell_same _ _ _ _ _ _ (heap_setCell_same _ _ _ _ _ _ hY1))
  · exact ⟨rfl, ((hBY.setCell (by show w.heap.size ≤ N + 1; omega) _).setCell (by show w.heap.size ≤ N + 1; omega) _).setCell (by show w.heap.size ≤ N + 1; omega) _⟩

set_option maxHeartbeats 1000000 in
theorem add3 (w : World) : Calls Yba.prog 14 #[timeV 0, .int .i64 3] w fun e w' => e = .returned (timeV 3) ∧ Below w.heap.size w w' := by
  have e1 : bits .and .u64 3 9223372036854775808 = 0 := and63 3 (by omega)
  have e2 : bits .or .u64 0 3 = 3 := or0 3 (by omega)
  have e3 := andNot0
  have e8 : wrap32 3 = 3 := by unfold wrap32; omega
  have e9 : IntKind.u64.wrap 3 = 3 := by simp only [IntKind.wrap, IntKind.bits, IntKind.signed]; simp
  unfold timeV
  go_enter Yba.func14, Yba.ntmps14
  go_upto_region 2 with fail
  obtain ⟨N, hN⟩ : ∃ N, N = w.heap.size := ⟨_, rfl⟩
  generalize hW : World.alloc _ _ = W
  have hB : Below w.heap.size w W := by rw [← hW]; exact below_al0 (below_al0 (Below.refl _ _))
  have hN0 : W.heap[N]? = some (.cells #[.int .u64 0, .int .i64 0, .pointer none] 118 (0, 0)) := by rw [← hW, hN]; exact heap2a _ _ _
  have hN1 : W.heap[N + 1]? = some (.cells #[.int .u64 0, .int .i64 0, .pointer none] 118 (0, 0)) := by rw [← hW, hN]; exact heap2b _ _ _
  have hNw : w.heap.size ≤ N := by omega
  rw [← hN]
  clear hW hN
  have c0 := cell_of_row W N 0 _ _ _ hN0
  have c1 := cell_of_row W N 1 _ _ _ hN0
  have c2 := cell_of_row W N 2 _ _ _ hN0
  have f0 := frozen_of_row W N 0 _ _ hN0
  have f1 := frozen_of_row W N 1 _ _ hN0
  have hns : Calls Yba.prog 27 #[.pointer (some ⟨N, 0, none⟩)] W fun e w' => e = .returned (.int .i32 0) ∧ w' = W := nsec_any N 0 (by omega) W c0
  go_upto_region 10 with (go_at_call 27; refine hns.mono ?_; rintro e w' ⟨rfl, hw'⟩; subst hw')
  obtain ⟨X, hX⟩ : ∃ X, X = w'.setCell ⟨N, 0, none⟩ (.int .u64 3) := ⟨_, rfl⟩
  have hX0 : X.heap[N]? = some (.cells #[.int .u64 3, .int .i64 0, .pointer none] 118 (0, 0)) := by rw [hX]; exact heap_setCell_same _ _ _ _ _ _ hN0
  have hX1 : X.heap[N + 1]? = some (.cells #[.int .u64 0, .int .i64 0, .pointer none] 118 (0, 0)) := by rw [hX]; exact (heap_setCell_other _ _ _ _ (by simp)).trans hN1
  have hBX : Below w.heap.size w X := by rw [hX]; exact hB.setCell (by show w.heap.size ≤ N; omega) _
  rw [← hX]
  clear hX hns c0 c1 c2 f0 f1 hN0 hN1 hB
  have has := addSec0 N 3 (by omega) X (cell_of_row X N 0 _ _ _ hX0) (cell_of_row X N 1 _ _ _ hX0) (frozen_of_row X N 1 _ _ hX0)
  obtain ⟨Y, hY⟩ : ∃ Y, Y = X.setCell ⟨N, 1, none⟩ (.int .i64 0) := ⟨_, rfl⟩
  rw [← hY] at has
  have hY0 : Y.heap[N]? = some (.cells #[.int .u64 3, .int .i64 0, .pointer none] 118 (0, 0)) := by rw [hY]; exact heap_setCell_same _ _ _ _ _ _ hX0
  have hY1 : Y.heap[N + 1]? = some (.cells #[.int .u64 0, .int .i64 0, .pointer none] 118 (0, 0)) := by rw [hY]; exact (heap_setCell_other _ _ _ _ (by simp)).trans hX1
  have hBY : Below w.heap.size w Y := by rw [hY]; exact hBX.setCell (by show w.heap.size ≤ N; omega) _
  clear hY hX0 hX1 hBX
  have c0 := cell_of_row Y N 0 _ _ _ hY0
  have c1 := cell_of_row Y N 1 _ _ _ hY0
  have c2 := cell_of_row Y N 2 _ _ _ hY0
  have d0 := cell_of_row Y (N + 1) 0 _ _ _ hY1
  have d1 := cell_of_row Y (N + 1) 1 _ _ _ hY1
  have d2 := cell_of_row Y (N + 1) 2 _ _ _ hY1
  have g0 := frozen_of_row Y (N + 1) 0 _ _ hY1
  have g1 := frozen_of_row Y (N + 1) 1 _ _ hY1
  have g2 := frozen_of_row Y (N + 1) 2 _ _ hY1
  have hth : Y.there (N + 1) 0 3 := fun j hj => ⟨by rw [cell_of_row _ _ _ _ _ _ hY1, Array.getElem?_eq_getElem (by simp; omega)]; rfl, frozen_of_row _ _ _ _ _ hY1⟩
  go_wp2_with (first
    | (go_at_call 28; refine has.mono ?_; rintro e w2 ⟨rfl, hw2⟩; subst hw2)
    | (refine wpList_store_mid rfl 118 (.tmp 4) (.tmp 65) rfl (N + 1) 0 #[.int .u64 3, .int .i64 0, .pointer none] rfl rfl hth info118 rfl ?_)
    | fail)
  refine bodyPost_ret (results_cell_row rfl _ _ (N + 1) 118 #[.int .u64 3, .int .i64 0, .pointer none] (0, 0) _ rfl ?_ Yba.underlying118 rfl info118) rfl ?_
  · exact heap_setCell_same _ _ _ _ _ _ (heap_setCell_same _ _ _ _ _ _ (heap_setCell_same _ _ _ _ _ _ hY1))
  · exact ⟨rfl, ((hBY.setCell (by show w.heap.size ≤ N + 1; omega) _).setCell (by show w.heap.size ≤ N + 1; omega) _).setCell (by show w.heap.size ≤ N + 1; omega) _⟩

set_option maxHeartbeats 1000000 in
theorem add4 (w : World) : Calls Yba.prog 14 #[timeV 0, .int .i64 4] w fun e w' => e = .returned (timeV 4) ∧ Below w.heap.size w w' := by
  have e1 : bits .and .u64 4 9223372036854775808 = 0 := and63 4 (by omega)
  have e2 : bits .or .u64 0 4 = 4 := or0 4 (by omega)
  have e3 := andNot0
  have e8 : wrap32 4 = 4 := by unfold wrap32; omega
  have e9 : IntKind.u64.wrap 4 = 4 := by simp only [IntKind.wrap, IntKind.bits, IntKind.signed]; simp
  unfold timeV
  go_enter Yba.func14, Yba.ntmps14
  go_upto_region 2 with fail
  obtain ⟨N, hN⟩ : ∃ N, N = w.heap.size := ⟨_, rfl⟩
  generalize hW : World.alloc _ _ = W
  have hB : Below w.heap.size w W := by rw [← hW]; exact below_al0 (below_al0 (Below.refl _ _))
  have hN0 : W.heap[N]? = some (.cells #[.int .u64 0, .int .i64 0, .pointer none] 118 (0, 0)) := by rw [← hW, hN]; exact heap2a _ _ _
  have hN1 : W.heap[N + 1]? = some (.cells #[.int .u64 0, .int .i64 0, .pointer none] 118 (0, 0)) := by rw [← hW, hN]; exact heap2b _ _ _
  have hNw : w.heap.size ≤ N := by omega
  rw [← hN]
  clear hW hN
  have c0 := cell_of_row W N 0 _ _ _ hN0
  have c1 := cell_of_row W N 1 _ _ _ hN0
  have c2 := cell_of_row W N 2 _ _ _ hN0
  have f0 := frozen_of_row W N 0 _ _ hN0
  have f1 := frozen_of_row W N 1 _ _ hN0
  have hns : Calls Yba.prog 27 #[.pointer (some ⟨N, 0, none⟩)] W fun e w' => e = .returned (.int .i32 0) ∧ w' = W := nsec_any N 0 (by omega) W c0
  go_upto_region 10 with (go_at_call 27; refine hns.mono ?_; rintro e w' ⟨rfl, hw'⟩; subst hw')
  obtain ⟨X, hX⟩ : ∃ X, X = w'.setCell ⟨N, 0, none⟩ (.int .u64 4) := ⟨_, rfl⟩
  have hX0 : X.heap[N]? = some (.cells #[.int .u64 4, .int .i64 0, .pointer none] 118 (0, 0)) := by rw [hX]; exact heap_setCell_same _ _ _ _ _ _ hN0
  have hX1 : X.heap[N + 1]? = some (.cells #[.int .u64 0, .int .i64 0, .pointer none] 118 (0, 0)) := by rw [hX]; exact (heap_setCell_other _ _ _ _ (by simp)).trans hN1
  have hBX : Below w.heap.size w X := by rw [hX]; exact hB.setCell (by show w.heap.size ≤ N; omega) _
  rw [← hX]
  clear hX hns c0 c1 c2 f0 f1 hN0 hN1 hB
  have has := addSec0 N 4 (by omega) X (cell_of_row X N 0 _ _ _ hX0) (cell_of_row X N 1 _ _ _ hX0) (frozen_of_row X N 1 _ _ hX0)
  obtain ⟨Y, hY⟩ : ∃ Y, Y = X.setCell ⟨N, 1, none⟩ (.int .i64 0) := ⟨_, rfl⟩
  rw [← hY] at has
  have hY0 : Y.heap[N]? = some (.cells #[.int .u64 4, .int .i64 0, .pointer none] 118 (0, 0)) := by rw [hY]; exact heap_setCell_same _ _ _ _ _ _ hX0
  have hY1 : Y.heap[N + 1]? = some (.cells #[.int .u64 0, .int .i64 0, .pointer none] 118 (0, 0)) := by rw [hY]; exact (heap_setCell_other _ _ _ _ (by simp)).trans hX1
  have hBY : Below w.heap.size w Y := by rw [hY]; exact hBX.setCell (by show w.heap.size ≤ N; omega) _
  clear hY hX0 hX1 hBX
  have c0 := cell_of_row Y N 0 _ _ _ hY0
  have c1 := cell_of_row Y N 1 _ _ _ hY0
  have c2 := cell_of_row Y N 2 _ _ _ hY0
  have d0 := cell_of_row Y (N + 1) 0 _ _ _ hY1
  have d1 := cell_of_row Y (N + 1) 1 _ _ _ hY1
  have d2 := cell_of_row Y (N + 1) 2 _ _ _ hY1
  have g0 := frozen_of_row Y (N + 1) 0 _ _ hY1
  have g1 := frozen_of_row Y (N + 1) 1 _ _ hY1
  have g2 := frozen_of_row Y (N + 1) 2 _ _ hY1
  have hth : Y.there (N + 1) 0 3 := fun j hj => ⟨by rw [cell_of_row _ _ _ _ _ _ hY1, Array.getElem?_eq_getElem (by simp; omega)]; rfl, frozen_of_row _ _ _ _ _ hY1⟩
  go_wp2_with (first
    | (go_at_call 28; refine has.mono ?_; rintro e w2 ⟨rfl, hw2⟩; subst hw2)
    | (refine wpList_store_mid rfl 118 (.tmp 4) (.tmp 65) rfl (N + 1) 0 #[.int .u64 4, .int .i64 0, .pointer none] rfl rfl hth info118 rfl ?_)
    | fail)
  refine bodyPost_ret (results_cell_row rfl _ _ (N + 1) 118 #[.int .u64 4, .int .i64 0, .pointer none] (0, 0) _ rfl ?_ Yba.underlying118 rfl info118) rfl ?_
  · exact heap_setCell_same _ _ _ _ _ _ (heap_setCell_same _ _ _ _ _ _ (heap_setCell_same _ _ _ _ _ _ hY1))
  · exact ⟨rfl, ((hBY.setCell (by show w.heap.size ≤ N + 1; omega) _).setCell (by show w.heap.size ≤ N + 1; omega) _).setCell (by show w.heap.size ≤ N + 1; omega) _⟩

set_option maxHeartbeats 1000000 in
theorem add5 (w : World) : Calls Yba.prog 14 #[timeV 0, .int .i64 5] w fun e w' => e = .returned (timeV 5) ∧ Below w.heap.size w w' := by
  have e1 : bits .and .u64 5 9223372036854775808 = 0 := and63 5 (by omega)
  have e2 : bits .or .u64 0 5 = 5 := or0 5 (by omega)
  have e3 := andNot0
  have e8 : wrap32 5 = 5 := by unfold wrap32; omega
  have e9 : IntKind.u64.wrap 5 = 5 := by simp only [IntKind.wrap, IntKind.bits, IntKind.signed]; simp
  unfold timeV
  go_enter Yba.func14, Yba.ntmps14
  go_upto_region 2 with fail
  obtain ⟨N, hN⟩ : ∃ N, N = w.heap.size := ⟨_, rfl⟩
  generalize hW : World.alloc _ _ = W
  have hB : Below w.heap.size w W := by rw [← hW]; exact below_al0 (below_al0 (Below.refl _ _))
  have hN0 : W.heap[N]? = some (.cells #[.int .u64 0, .int .i64 0, .pointer none] 118 (0, 0)) := by rw [← hW, hN]; exact heap2a _ _ _
  have hN1 : W.heap[N + 1]? = some (.cells #[.int .u64 0, .int .i64 0, .pointer none] 118 (0, 0)) := by rw [← hW, hN]; exact heap2b _ _ _
  have hNw : w.heap.size ≤ N := by omega
  rw [← hN]
  clear hW hN
  have c0 := cell_of_row W N 0 _ _ _ hN0
  have c1 := cell_of_row W N 1 _ _ _ hN0
  have c2 := cell_of_row W N 2 _ _ _ hN0
  have f0 := frozen_of_row W N 0 _ _ hN0
  have f1 := frozen_of_row W N 1 _ _ hN0
  have hns : Calls Yba.prog 27 #[.pointer (some ⟨N, 0, none⟩)] W fun e w' => e = .returned (.int .i32 0) ∧ w' = W := nsec_any N 0 (by omega) W c0
  go_upto_region 10 with (go_at_call 27; refine hns.mono ?_; rintro e w' ⟨rfl, hw'⟩; subst hw')
  obtain ⟨X, hX⟩ : ∃ X, X = w'.setCell ⟨N, 0, none⟩ (.int .u64 5) := ⟨_, rfl⟩
  have hX0 : X.heap[N]? = some (.cells #[.int .u64 5, .int .i64 0, .pointer none] 118 (0, 0)) := by rw [hX]; exact heap_setCell_same _ _ _ _ _ _ hN0
  have hX1 : X.heap[N + 1]? = some (.cells #[.int .u64 0, .int .i64 0, .pointer none] 118 (0, 0)) := by rw [hX]; exact (heap_setCell_other _ _ _ _ (by simp)).trans hN1
  have hBX : Below w.heap.size w X := by rw [hX]; exact hB.setCell (by show w.heap.size ≤ N; omega) _
  rw [← hX]
  clear hX hns c0 c1 c2 f0 f1 hN0 hN1 hB
  have has := addSec0 N 5 (by omega) X (cell_of_row X N 0 _ _ _ hX0) (cell_of_row X N 1 _ _ _ hX0) (frozen_of_row X N 1 _ _ hX0)
  obtain ⟨Y, hY⟩ : ∃ Y, Y = X.setCell ⟨N, 1, none⟩ (.int .i64 0) := ⟨_, rfl⟩
  rw [← hY] at has
  have hY0 : Y.heap[N]? = some (.cells #[.int .u64 5, .int .i64 0, .pointer none] 118 (0, 0)) := by rw [hY]; exact heap_setCell_same _ _ _ _ _ _ hX0
  have hY1 : Y.heap[N + 1]? = some (.cells #[.int .u64 0, .int .i64 0, .pointer none] 118 (0, 0)) := by rw [hY]; exact (heap_setCell_other _ _ _ _ (by simp)).trans hX1
  have hBY : Below w.heap.size w Y := by rw [hY]; exact hBX.setCell (by show w.heap.size ≤ N; omega) _
  clear hY hX0 hX1 hBX
  have c0 := cell_of_row Y N 0 _ _ _ hY0
  have c1 := cell_of_row Y N 1 _ _ _ hY0
  have c2 := cell_of_row Y N 2 _ _ _ hY0
  have d0 := cell_of_row Y (N + 1) 0 _ _ _ hY1
  have d1 := cell_of_row Y (N + 1) 1 _ _ _ hY1
  have d2 := cell_of_row Y (N + 1) 2 _ _ _ hY1
  have g0 := frozen_of_row Y (N + 1) 0 _ _ hY1
  have g1 := frozen_of_row Y (N + 1) 1 _ _ hY1
  have g2 := frozen_of_row Y (N + 1) 2 _ _ hY1
  have hth : Y.there (N + 1) 0 3 := fun j hj => ⟨by rw [cell_of_row _ _ _ _ _ _ hY1, Array.getElem?_eq_getElem (by simp; omega)]; rfl, frozen_of_row _ _ _ _ _ hY1⟩
  go_wp2_with (first
    | (go_at_call 28; refine has.mono ?_; rintro e w2 ⟨rfl, hw2⟩; subst hw2)
    | (refine wpList_store_mid rfl 118 (.tmp 4) (.tmp 65) rfl (N + 1) 0 #[.int .u64 5, .int .i64 0, .pointer none] rfl rfl hth info118 rfl ?_)
    | fail)
  refine bodyPost_ret (results_cell_row rfl _ _ (N + 1) 118 #[.int .u64 5, .int .i64 0, .pointer none] (0, 0) _ rfl ?_ Yba.underlying118 rfl info118) rfl ?_
  · exact heap_setCell_same _ _ _ _ _ _ (heap_setCell_same _ _ _ _ _ _ (heap_setCell_same _ _ _ _ _ _ hY1))
  · exact ⟨rfl, ((hBY.setCell (by show w.heap.size ≤ N + 1; omega) _).setCell (by show w.heap.size ≤ N + 1; omega) _).setCell (by show w.heap.size ≤ N + 1; omega) _⟩

theorem add_any : ∀ (d : Nat), 1 ≤ d → d ≤ 5 → ∀ w : World, Calls Yba.prog 14 #[timeV 0, .int .i64 (d : Int)] w fun e w' => e = .returned (timeV d) ∧ Below w.heap.size w w'
  | 1, _, _, w => add1 w
  | 2, _, _, w => add2 w
  | 3, _, _, w => add3 w
  | 4, _, _, w => add4 w
  | 5, _, _, w => add5 w
  | n + 6, _, h, _ => by omega
  | 0, h, _, _ => by omega
set_option maxHeartbeats 1000000 in
theorem eq_any (d : Nat) (hd : d ≤ 5) (w : World) : Calls Yba.prog 18 #[timeV d, timeV d] w fun e w' => e = .returned (.bool true) ∧ Below w.heap.size w w' := by
  have e1 := and63d d hd
  unfold timeV
  go_enter Yba.func18, Yba.ntmps18
  go_upto_region 1 with fail
  obtain ⟨N, hN⟩ : ∃ N, N = w.heap.size := ⟨_, rfl⟩
  generalize hW : World.alloc _ _ = W
  have hB : Below w.heap.size w W := by rw [← hW]; exact below_al0 (below_al0 (Below.refl _ _))
  have hN0 : W.heap[N]? = some (.cells #[.int .u64 (d : Int), .int .i64 0, .pointer none] 118 (0, 0)) := by rw [← hW, hN]; exact heap2a _ _ _
  have hN1 : W.heap[N + 1]? = some (.cells #[.int .u64 (d : Int), .int .i64 0, .pointer none] 118 (0, 0)) := by rw [← hW, hN]; exact heap2b _ _ _
  rw [← hN]
  clear hW hN
  have c0 := cell_of_row W N 0 _ _ _ hN0
  have c1 := cell_of_row W N 1 _ _ _ hN0
  have d0 := cell_of_row W (N + 1) 0 _ _ _ hN1
  have d1 := cell_of_row W (N + 1) 1 _ _ _ hN1
  go_wp2_with (first
    | (go_at_call 36; refine (sec_any _ d hd 0 _ (by first | exact c0 | exact d0) (by first | exact c1 | exact d1)).mono ?_; rintro e w2 ⟨rfl, hw2⟩; subst hw2)
    | (go_at_call 27; refine (nsec_any _ d hd _ (by first | exact c0 | exact d0)).mono ?_; rintro e w2 ⟨rfl, hw2⟩; subst hw2)
    | fail)
  go_ret
  exact ⟨rfl, by assumption⟩

end Go.Proofs.Ybulkcrtu
