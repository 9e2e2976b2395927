import Derived.Test.YbulkcrtuR
namespace Go.Proofs.Ybulkcrtu
open Go.RowKit Go.ChangeMaps Go.MapKept

theorem results_tct {P : Program} {fn : Func} {t p u : Tmp} {ty : TypeId} (h : fn.results = #[.tmp t, .cell p ty, .tmp u]) (tmps : Array Value) (w : World) (g : Nat) (ty' : TypeId) (cs : Array Value) (fr : Nat × Nat) (d : TypeDesc)
    (hp : tmps.getD p undef = .pointer (some ⟨g, 0, none⟩)) (hg : w.heap[g]? = some (.cells cs ty' fr))
    (hu : P.underlying ty = some d) (hd : (match d with | .struct _ | .array _ _ => true | _ => false) = true) (hi : (P.info? ty).map (·.size) = some cs.size) :
    (results fn tmps).run P w = .ok (.tuple #[tmps.getD t undef, .agg cs, tmps.getD u undef]) w := by
  have hp' : tmps[p]?.getD undef = .pointer (some ⟨g, 0, none⟩) := by simpa using hp
  simp [results, h, hp', asAddr, run_loadVar_row w g ty' ty cs fr d hg hu hd hi]
theorem ta143 (v : Value) (w : World) : (Instr.typeAssert (.iface 143 v) 20 143 false).run Yba.prog w = .ok v w := by kernel_rfl
theorem info80 : (Yba.prog.info? 80).map (·.size) = some 5 := by kernel_rfl
set_option maxRecDepth 100000 in
set_option maxHeartbeats 2000000 in
theorem map_oldest (T o b N : Nat) (id lo hi : Int) (z : Option Addr) (port : Int) (a : Option Addr) (n c : Nat) (w : World) (c2 : w.cell? ⟨T, o + 2, none⟩ = some (.pointer (some ⟨b, 0, none⟩)))
    (hb : w.heap[b]? = some (.cells (oneL N) 151 (0, 0))) (hN : w.heap[N]? = some (.cells (elemL b (.iface 143 (.agg (remC id lo hi z port a n c)))) 145 (0, 0))) :
    Calls Yba.prog 17 #[.pointer (some ⟨T, o, none⟩)] w fun e w' => e = .returned (.tuple #[.int .u32 id, .agg (gvC lo hi z port a n c), .bool true]) ∧ Below w.heap.size w w' := by
  have hTl := World.block_lt_of_cell? _ _ c2
  have hbl := (Array.getElem?_eq_some_iff.1 hb).1
  have hNl := (Array.getElem?_eq_some_iff.1 hN).1
  go_enter Yba.func17, Yba.ntmps17
  go_upto_region 1 with fail
  generalize hW : World.alloc _ _ = W
  obtain ⟨B, hBd⟩ : ∃ B, B = w.heap.size := ⟨_, rfl⟩
  have hB : Below w.heap.size w W := by rw [← hW]; exact below_alloc _ _
  have hBW : W.heap[B]? = some (.cells #[.int .u64 0, .int .u64 0, .pointer none, .int .u16 0, .slice none 0 0] 80 (0, 0)) := by rw [← hW, hBd]; exact heap1a _ _
  have hbW := (hB.block b hbl).trans hb
  have hNW := (hB.block N hNl).trans hN
  have d2 := (hB.cell (p := ⟨T, o + 2, none⟩) hTl).trans c2
  have b0 := cell_of_row W b 0 _ _ _ hbW
  have b4 := cell_of_row W b 4 _ _ _ hbW
  have n3 := cell_of_row W N 3 _ _ _ hNW
  simp only [oneL, elemL, remC] at b0 b4 n3
  have hfr := list_front b N W (by simpa using b4) (by simpa using b0)
  rw [← hBd]
  have hBw : w.heap.size ≤ B := by omega
  clear hW hBd b0 b4
  have hta := ta143
  go_upto_region 6 with (go_at_call 35; refine hfr.mono ?_; rintro e w2 ⟨rfl, hw2⟩; subst hw2)
  generalize hW5 : World.alloc _ _ = W5
  obtain ⟨C, hCd⟩ : ∃ C, C = w2.heap.size := ⟨_, rfl⟩
  have hB5 : Below w2.heap.size w2 W5 := by rw [← hW5]; exact below_alloc _ _
  have hC : W5.heap[C]? = some (.cells (remC id lo hi z port a n c) 143 (0, 0)) := by rw [← hW5, hCd]; exact heap1a _ _
  have hBl := (Array.getElem?_eq_some_iff.1 hBW).1
  have hB5' := (hB5.block B hBl).trans hBW
  have hCB : C ≠ B := by omega
  rw [← hCd]
  have hsw := hB.size
  have hBw5 : Below w.heap.size w W5 := hB.trans (hB5.mono hsw)
  clear hW5 hCd hta hfr d2 n3
  have e0 : W5.cell? ⟨C, 0, none⟩ = some (.int .u32 id) := cell_of_row W5 C 0 _ _ _ hC
  have e1 : W5.cell? ⟨C, 1, none⟩ = some (.int .u64 lo) := cell_of_row W5 C 1 _ _ _ hC
  have e2 : W5.cell? ⟨C, 2, none⟩ = some (.int .u64 hi) := cell_of_row W5 C 2 _ _ _ hC
  have e3 : W5.cell? ⟨C, 3, none⟩ = some (.pointer z) := cell_of_row W5 C 3 _ _ _ hC
  have e4 : W5.cell? ⟨C, 4, none⟩ = some (.int .u16 port) := cell_of_row W5 C 4 _ _ _ hC
  have e5 : W5.cell? ⟨C, 5, none⟩ = some (.slice a n c) := cell_of_row W5 C 5 _ _ _ hC
  have f0 : W5.cell? ⟨B, 0, none⟩ = some (.int .u64 0) := cell_of_row W5 B 0 _ _ _ hB5'
  have f1 : W5.cell? ⟨B, 1, none⟩ = some (.int .u64 0) := cell_of_row W5 B 1 _ _ _ hB5'
  have f2 : W5.cell? ⟨B, 2, none⟩ = some (.pointer none) := cell_of_row W5 B 2 _ _ _ hB5'
  have f3 : W5.cell? ⟨B, 3, none⟩ = some (.int .u16 0) := cell_of_row W5 B 3 _ _ _ hB5'
  have f4 : W5.cell? ⟨B, 4, none⟩ = some (.slice none 0 0) := cell_of_row W5 B 4 _ _ _ hB5'
  have g0 := frozen_of_row W5 B 0 _ _ hB5'
  have g1 := frozen_of_row W5 B 1 _ _ hB5'
  have g2 := frozen_of_row W5 B 2 _ _ hB5'
  have g3 := frozen_of_row W5 B 3 _ _ hB5'
  have g4 := frozen_of_row W5 B 4 _ _ hB5'
  have hBC := hCB.symm
  go_region_held3 (fun w' => w'.cell? ⟨C, 0, none⟩ = some (.int .u32 id) ∧ w'.cell? ⟨C, 1, none⟩ = some (.int .u64 lo) ∧ w'.cell? ⟨C, 2, none⟩ = some (.int .u64 hi) ∧ w'.cell? ⟨C, 3, none⟩ = some (.pointer z) ∧ w'.cell? ⟨C, 4, none⟩ = some (.int .u16 port) ∧ w'.cell? ⟨C, 5, none⟩ = some (.slice a n c)) (go_keep) (fail)
  obtain ⟨Y, hY⟩ : ∃ Y, Y = (((((W5.setCell ⟨B, 0, none⟩ (.int .u64 lo)).setCell ⟨B, 1, none⟩ (.int .u64 hi)).setCell ⟨B, 2, none⟩ (.pointer z)).setCell ⟨B, 3, none⟩ (.int .u16 port)).setCell ⟨B, 4, none⟩ (.slice a n c)).drew := ⟨_, rfl⟩
  rw [← hY]
  have hYB : Y.heap[B]? = some (.cells (gvC lo hi z port a n c) 80 (0, 0)) := by
    rw [hY]
    exact heap_setCell_same _ _ _ _ _ _ (heap_setCell_same _ _ _ _ _ _ (heap_setCell_same _ _ _ _ _ _ (heap_setCell_same _ _ _ _ _ _ (heap_setCell_same _ _ _ _ _ _ hB5'))))
  have hYw : Below w.heap.size w Y := by
    rw [hY]
    exact (((((hBw5.setCell (show w.heap.size ≤ B by omega) _).setCell (show w.heap.size ≤ B by omega) _).setCell (show w.heap.size ≤ B by omega) _).setCell (show w.heap.size ≤ B by omega) _).setCell (show w.heap.size ≤ B by omega) _).drew
  clear hY e0 e1 e2 e3 e4 e5 f0 f1 f2 f3 f4 g0 g1 g2 g3 g4 hB5' hBw5 hC
  go_wp2
  refine bodyPost_ret (results_tct rfl _ Y B 80 _ (0, 0) _ rfl hYB Yba.underlying80 rfl info80) rfl ?_
  exact ⟨rfl, hYw⟩

end Go.Proofs.Ybulkcrtu
