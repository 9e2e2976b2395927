import Derived.Test.YbulkcrtuD
namespace Go.Proofs.Ybulkcrtu
open Go.RowKit Go.ChangeMaps Go.MapKept Go.MuLone

set_option maxRecDepth 100000 in
set_option maxHeartbeats 2000000 in
theorem unanswered_any (c S n : Nat) (ans : Bool) (cs : Array Value) (w : World) (hc : w.heap[c]? = some (.cells cs 114 (0, 0))) (h268 : cs[268]? = some (.int .i32 0)) (h271 : cs[271]? = some (.slice (some ⟨S, 0, none⟩) n n)) (h272 : cs[272]? = some (.bool ans)) (hn : n ≤ 5) (hS : w.heap[S]? = some (.cells (tcells n).toArray 118 (0, 0))) :
    Calls Yba.prog 31 #[.pointer (some ⟨c, 0, none⟩)] w fun e w' => ∃ a cap, e = .returned (.tuple #[.slice a n cap, .bool (!ans && decide (0 < n))]) ∧ w'.ownsRow w.heap.size 118 3 (.slice a n cap) n (tcells n) ∧ Below w.heap.size w w' := by
  have hcl := (Array.getElem?_eq_some_iff.1 hc).1
  have hSl := (Array.getElem?_eq_some_iff.1 hS).1
  have hSc : S ≠ c := fun e => by rw [e, hc] at hS; simp at hS
  have k0 : w.cell? ⟨c, 268, none⟩ = some (.int .i32 0) := (cell_of_row w c 268 _ _ _ hc).trans h268
  have f0 := frozen_of_row w c 268 _ _ hc
  obtain ⟨W, hWd⟩ : ∃ W, W = w.setCell ⟨c, 268, none⟩ (.int .i32 1) := ⟨_, rfl⟩
  have hlk := lock_free muLib ⟨c, 268, none⟩ w k0 f0
  rw [← hWd] at hlk
  have hcW : W.heap[c]? = some (.cells (cs.setIfInBounds 268 (.int .i32 1)) 114 (0, 0)) := by rw [hWd]; exact heap_setCell_same _ _ _ _ _ _ hc
  have hSW : W.heap[S]? = some (.cells (tcells n).toArray 118 (0, 0)) := by rw [hWd]; exact (heap_setCell_other _ _ _ _ hSc).trans hS
  have hWs : W.heap.size = w.heap.size := by rw [hWd]; simp [World.setCell]
  have hWo : ∀ q, q ≠ c → W.heap[q]? = w.heap[q]? := fun q hq => by rw [hWd]; exact heap_setCell_other _ _ _ _ hq
  have hWx : W.os = w.os ∧ W.tape = w.tape ∧ W.output = w.output := by rw [hWd]; exact ⟨rfl, rfl, rfl⟩
  have k1 : W.cell? ⟨c, 271, none⟩ = some (.slice (some ⟨S, 0, none⟩) n n) := by rw [cell_of_row W c 271 _ _ _ hcW, Array.getElem?_setIfInBounds_ne (by omega)]; exact h271
  have k2 : W.cell? ⟨c, 272, none⟩ = some (.bool ans) := by rw [cell_of_row W c 272 _ _ _ hcW, Array.getElem?_setIfInBounds_ne (by omega)]; exact h272
  clear hWd
  go_enter_defers Yba.func31, Yba.ntmps31
  go_upto_region 3 with (go_at_call 30; refine hlk.mono ?_; rintro e w' ⟨rfl, hw'⟩; subst hw')
  rename World => X
  have hcX : c < X.heap.size := by omega
  cases ans
  · have hd : decide (0 < (n : Int)) = decide (0 < n) := by rw [decide_eq_decide]; omega
    go_region_held3 (fun u => u.cell? ⟨c, 271, none⟩ = some (.slice (some ⟨S, 0, none⟩) n n) ∧ u.cell? ⟨c, 272, none⟩ = some (.bool false))
      (first
        | exact ⟨k1, k2⟩
        | exact ⟨(Below.cell (by assumption) hcX).trans k1, (Below.cell (by assumption) hcX).trans k2⟩)
      ((first
        | (go_at_call 43; refine (clone_any S n _ hn (by exact hSW)).mono ?_; rintro e w2 ⟨a2, c2, rfl, ho2, hb2'⟩; have hb2 : Below X.heap.size X w2 := ⟨hb2'.os, hb2'.tape, hb2'.output, hb2'.size, hb2'.block⟩)
        | fail))
    have ho3 : (w2.setCell ⟨c, 268, none⟩ (.int .i32 0)).ownsRow w.heap.size 118 3 (.slice a2 n c2) n (tcells n) := by
      rw [← hWs]
      exact ownsRow_setCell_below ho2 hcX _
    have hc2 : w2.heap[c]? = some (.cells (cs.setIfInBounds 268 (.int .i32 1)) 114 (0, 0)) := (hb2.block c hcX).trans hcW
    have hbF : Below w.heap.size w (w2.setCell ⟨c, 268, none⟩ (.int .i32 0)) := by
      refine ⟨hb2.os.trans hWx.1, hb2.tape.trans hWx.2.1, hb2.output.trans hWx.2.2, by have := hb2.size; simp [World.setCell]; omega, fun q hq => ?_⟩
      by_cases hqc : q = c
      · subst hqc
        rw [heap_setCell_same _ _ _ _ _ _ hc2, hc, set_back h268]
      · rw [heap_setCell_other _ _ _ _ hqc, hb2.block q (by omega), hWo q hqc]
    have u0 : w2.cell? ⟨c, 268, none⟩ = some (.int .i32 1) := by
      rw [cell_of_row w2 c 268 _ _ _ hc2]
      have : 268 < cs.size := (Array.getElem?_eq_some_iff.1 h268).1
      simp [this]
    have u1 := frozen_of_row w2 c 268 _ _ hc2
    clear hlk hc2 ho2 hb2'
    go_wp2
    refine leaves_cons (f := 33) (args := #[.pointer (some ⟨c, 268, none⟩)]) (by simp) (by simp [go_sem]) ?_
    refine (unlock_deferred muLib ⟨c, 268, none⟩ .returning _ u0 u1).mono ?_
    rintro e u' w'' ⟨rfl, rfl, rfl⟩
    exact ⟨_, results_tmp2 rfl _ _ _, a2, c2, by simp, ho3, hbF⟩
  · refine un_region (c := c) (S := S) (n := n) (X := X) _ ?hA ?h0 ?hsz ?hlow ?hw ?hm ?hd10 ?o0 ?o1 ?o2 ?o3 ?o4 ?o5 ?o6 ?o7 ?o8 ?o9 ?o10 ?o11 ?o12 ?o13 ?o14 ?o15 ?o16 ?o17 ?o18 ?o19 k1 k2 hn hSW ?hQ
    case hA => show 29 ≤ 29; omega
    case h0 => rfl
    case hsz => rfl
    case hlow => kernel_rfl
    case hm => kernel_rfl
    case hd10 => rfl
    case o0 => exact ⟨_, rfl, rfl, rfl, rfl⟩
    case o1 => exact ⟨_, rfl, rfl, rfl, rfl⟩
    case o2 => exact ⟨_, rfl, rfl, rfl, rfl⟩
    case o3 => exact ⟨_, rfl, rfl, rfl, rfl⟩
    case o4 => exact ⟨_, rfl, rfl, rfl, rfl⟩
    case o5 => exact ⟨_, rfl, rfl, rfl, rfl⟩
    case o6 => exact ⟨_, rfl, rfl, rfl, rfl⟩
    case o7 => exact ⟨_, rfl, rfl, rfl, rfl⟩
    case o8 => exact ⟨_, rfl, rfl, rfl, rfl⟩
    case o9 => exact ⟨_, rfl, rfl, rfl, rfl⟩
    case o10 => exact ⟨_, rfl, rfl, rfl, rfl⟩
    case o17 => exact ⟨_, rfl, rfl, rfl, rfl⟩
    case o18 => exact ⟨_, rfl, rfl, rfl, rfl⟩
    case o19 => exact ⟨_, rfl, rfl, rfl, rfl⟩
    case o11 => exact ⟨_, rfl, rfl, rfl⟩
    case o12 => exact ⟨_, rfl, rfl, rfl⟩
    case o13 => exact ⟨_, rfl, rfl, rfl⟩
    case o14 => exact ⟨_, rfl, rfl, rfl⟩
    case o15 => exact ⟨_, rfl, rfl, rfl⟩
    case o16 => exact ⟨_, rfl, rfl, rfl⟩
    case hw =>
      intro p hp
      simp only [edgesU, List.mem_cons, List.not_mem_nil, or_false] at hp
      rcases hp with h | h | h | h | h | h | h | h | h | h | h | h | h | h | h | h | h | h <;> subst h <;> kernel_rfl
    case hQ =>
      intro f w2 a2 c2 ho2 hb2 hf0 hf1 hfr
      have hb2' := hb2
      have r2 := hfr 2 (by omega) (by omega)
      have r3 := hfr 3 (by omega) (by omega)
      have r4 := hfr 4 (by omega) (by omega)
      have r5 := hfr 5 (by omega) (by omega)
      have r6 := hfr 6 (by omega) (by omega)
      have r7 := hfr 7 (by omega) (by omega)
      have r8 := hfr 8 (by omega) (by omega)
      simp only [putsR, Act.put, Nat.reduceAdd, List.setIfInBounds_toArray, List.set_cons_zero, List.set_cons_succ, hf0, hf1]
      clear hfr r2 r3 r4 r5 r6 r7 r8
      have ho3 : (w2.setCell ⟨c, 268, none⟩ (.int .i32 0)).ownsRow w.heap.size 118 3 (.slice a2 n c2) n (tcells n) := by
        rw [← hWs]
        exact ownsRow_setCell_below ho2 hcX _
      have hc2 : w2.heap[c]? = some (.cells (cs.setIfInBounds 268 (.int .i32 1)) 114 (0, 0)) := (hb2.block c hcX).trans hcW
      have hbF : Below w.heap.size w (w2.setCell ⟨c, 268, none⟩ (.int .i32 0)) := by
        refine ⟨hb2.os.trans hWx.1, hb2.tape.trans hWx.2.1, hb2.output.trans hWx.2.2, by have := hb2.size; simp [World.setCell]; omega, fun q hq => ?_⟩
        by_cases hqc : q = c
        · subst hqc
          rw [heap_setCell_same _ _ _ _ _ _ hc2, hc, set_back h268]
        · rw [heap_setCell_other _ _ _ _ hqc, hb2.block q (by omega), hWo q hqc]
      have u0 : w2.cell? ⟨c, 268, none⟩ = some (.int .i32 1) := by
        rw [cell_of_row w2 c 268 _ _ _ hc2]
        have : 268 < cs.size := (Array.getElem?_eq_some_iff.1 h268).1
        simp [this]
      have u1 := frozen_of_row w2 c 268 _ _ hc2
      clear hlk hc2 ho2 hb2'
      go_wp2
      refine leaves_cons (f := 33) (args := #[.pointer (some ⟨c, 268, none⟩)]) (by simp) (by simp [go_sem]) ?_
      refine (unlock_deferred muLib ⟨c, 268, none⟩ .returning _ u0 u1).mono ?_
      rintro e u' w'' ⟨rfl, rfl, rfl⟩
      exact ⟨_, results_tmp2 rfl _ _ _, a2, c2, by simp, ho3, hbF⟩

end Go.Proofs.Ybulkcrtu
