import Derived.Test.YbulkcrtuL
namespace Go.Proofs.Ybulkcrtu
open Go.RowKit Go.ChangeMaps Go.MapKept

theorem zero140 (w : World) : (zeroValue 140).run Yba.prog w = .ok (.pointer none) w := by kernel_rfl
theorem step_mapUpd {ops : Array Oper} {o : Oper} {a : Act} {W w' : World} {K : Act → World → Prop} {Q : Exit → Act → World → Prop} {E : Prop} (hgd : o.guard = none) (m x v : Operand) (t : TypeId) (ho : o.op = .mapUpdate t m x v) {vm vx vv : Value} (hm : a.eval m = vm) (hx : a.eval x = vx) (hv : a.eval v = vv)
    (hr : (Instr.mapUpdate t vm vx vv).run Yba.prog W = .ok () w') (h : K (a.put o.dst undef) w') :
    if Region.wanted o (yielded ops a.tmps) = true then Oper.wp Yba.prog o a W K Q else E := by
  rw [if_pos (by simp [Region.wanted, hgd])]
  unfold Oper.wp execOp
  simp only [ho, hm, hx, hv, hr, Sem.run_bind, Sem.run_pure, Result.andThen_ok]
  exact h
/-- This step is this store into a map. -/
theorem step_atM {ops : Array Oper} {o : Oper} {a : Act} {W : World} {K : Act → World → Prop} {Q : Exit → Act → World → Prop} {E : Prop} (m x v : Operand) (t : TypeId) (_ : o.op = .mapUpdate t m x v)
    (h : if Region.wanted o (yielded ops a.tmps) = true then Oper.wp Yba.prog o a W K Q else E) : if Region.wanted o (yielded ops a.tmps) = true then Oper.wp Yba.prog o a W K Q else E := h
theorem turn_cell {w w' : World} {M : Nat} (h : w.mapTurned w' M) {q i : Nat} {v : Value} (hq : q ≠ M) (hc : w.cell? ⟨q, i, none⟩ = some v) : w'.cell? ⟨q, i, none⟩ = some v := by
  rw [World.cell?_of_block (w := w) (h.grown.block q (World.block_lt_of_cell? _ _ hc) (by simpa using hq))]
  exact hc
theorem Pushed.cell {b N : Nat} {x : Value} {w w' : World} (h : Pushed b N x w w') {q i : Nat} {v : Value} (hq : q ≠ b) (hc : w.cell? ⟨q, i, none⟩ = some v) : w'.cell? ⟨q, i, none⟩ = some v := by
  have := World.block_lt_of_cell? _ _ hc
  rw [World.cell?_of_block (w := w) (h.2.2.2.2.2.2.2 q this hq)]
  exact hc

def gvC (lo hi : Int) (z : Option Addr) (port : Int) (a : Option Addr) (n c : Nat) : Array Value := #[.int .u64 lo, .int .u64 hi, .pointer z, .int .u16 port, .slice a n c]
def remC (id lo hi : Int) (z : Option Addr) (port : Int) (a : Option Addr) (n c : Nat) : Array Value := #[.int .u32 id, .int .u64 lo, .int .u64 hi, .pointer z, .int .u16 port, .slice a n c]

set_option maxRecDepth 100000 in
set_option maxHeartbeats 2000000 in
theorem map_add (T o M b : Nat) (id lo hi : Int) (z : Option Addr) (port : Int) (a : Option Addr) (n c : Nat) (w : World) (hid : Id id) (c0 : w.cell? ⟨T, o, none⟩ = some (.int .i64 1024)) (c1 : w.cell? ⟨T, o + 1, none⟩ = some (.map (some M))) (c2 : w.cell? ⟨T, o + 2, none⟩ = some (.pointer (some ⟨b, 0, none⟩)))
    (hM : MapU w M 0 0 (fun _ => none)) (hb : w.heap[b]? = some (.cells (emptyL b) 151 (0, 0))) (hTb : T ≠ b) (hTM : T ≠ M) :
    Calls Yba.prog 32 #[.pointer (some ⟨T, o, none⟩), .int .u32 id, .agg (gvC lo hi z port a n c)] w fun e w' => e = .returned (.tuple #[]) ∧ w'.os = w.os ∧ w'.tape = w.tape ∧ w'.output = w.output ∧ w.heap.size ≤ w'.heap.size ∧ (∀ q, q < w.heap.size → q ≠ M → q ≠ b → w'.heap[q]? = w.heap[q]?) ∧
      ∃ N, w'.heap[N]? = some (.cells (elemL b (.iface 143 (.agg (remC id lo hi z port a n c)))) 145 (0, 0)) ∧ w'.heap[b]? = some (.cells (oneL N) 151 (0, 0)) := by
  have hTl := World.block_lt_of_cell? _ _ c0
  unfold gvC
  have hlk : ∀ u : World, u.heap[M]? = w.heap[M]? → (Instr.lookup 73 (.map (some M)) (.int .u32 id) true).run Yba.prog u = .ok (.tuple #[.pointer none, .bool false]) u := fun u hu => (hM.of_block hu).look_ok Yba.underlying73 (zero140 u) hid
  go_enter Yba.func32, Yba.ntmps32
  go_upto_region 1 with fail
  generalize hW : World.alloc _ _ = W
  obtain ⟨B, hBd⟩ : ∃ B, B = w.heap.size := ⟨_, rfl⟩
  have hB : Below w.heap.size w W := by rw [← hW]; exact below_alloc _ _
  have hBW : W.heap[B]? = some (.cells #[.int .u64 lo, .int .u64 hi, .pointer z, .int .u16 port, .slice a n c] 80 (0, 0)) := by rw [← hW, hBd]; exact heap1a _ _
  have hMl := hM.lt
  have hbl := (Array.getElem?_eq_some_iff.1 hb).1
  have hBM : B ≠ M := by omega
  have hBb : B ≠ b := by omega
  have hMb : M ≠ b := fun e => by obtain ⟨_, _, h⟩ := hM.map; rw [e, hb] at h; cases h
  have hMW : MapU W M 0 0 (fun _ => none) := hM.of_block (hB.block M hMl)
  have hbW := (hB.block b hbl).trans hb
  have d0 := (hB.cell (p := ⟨T, o, none⟩) hTl).trans c0
  have d1 := (hB.cell (p := ⟨T, o + 1, none⟩) hTl).trans c1
  have d2 := (hB.cell (p := ⟨T, o + 2, none⟩) hTl).trans c2
  have hl1 := hlk W (hB.block M hMl)
  rw [← hBd]
  clear hW hBd hlk
  go_upto_region 5 with fail
  have e0 := cell_of_row W B 0 _ _ _ hBW
  have e1 := cell_of_row W B 1 _ _ _ hBW
  have e2 := cell_of_row W B 2 _ _ _ hBW
  have e3 := cell_of_row W B 3 _ _ _ hBW
  have e4 := cell_of_row W B 4 _ _ _ hBW
  simp only [List.getElem?_toArray, List.getElem?_cons_zero, List.getElem?_cons_succ] at e0 e1 e2 e3 e4
  clear hl1 c0 c1 c2
  go_region_held3 (fun w' => w'.cell? ⟨T, o + 1, none⟩ = some (.map (some M)) ∧ w'.cell? ⟨T, o + 2, none⟩ = some (.pointer (some ⟨b, 0, none⟩)) ∧ w'.cell? ⟨B, 0, none⟩ = some (.int .u64 lo) ∧ w'.cell? ⟨B, 1, none⟩ = some (.int .u64 hi) ∧ w'.cell? ⟨B, 2, none⟩ = some (.pointer z) ∧ w'.cell? ⟨B, 3, none⟩ = some (.int .u16 port) ∧ w'.cell? ⟨B, 4, none⟩ = some (.slice a n c))
    (first
      | exact ⟨d1, d2, e0, e1, e2, e3, e4⟩
      | exact ⟨Pushed.cell (by assumption) hTb d1, Pushed.cell (by assumption) hTb d2, Pushed.cell (by assumption) hBb e0, Pushed.cell (by assumption) hBb e1, Pushed.cell (by assumption) hBb e2, Pushed.cell (by assumption) hBb e3, Pushed.cell (by assumption) hBb e4⟩
      | exact ⟨turn_cell (by assumption) hTM (Pushed.cell (by assumption) hTb d1), turn_cell (by assumption) hTM (Pushed.cell (by assumption) hTb d2), turn_cell (by assumption) hBM (Pushed.cell (by assumption) hBb e0), turn_cell (by assumption) hBM (Pushed.cell (by assumption) hBb e1), turn_cell (by assumption) hBM (Pushed.cell (by assumption) hBb e2), turn_cell (by assumption) hBM (Pushed.cell (by assumption) hBb e3), turn_cell (by assumption) hBM (Pushed.cell (by assumption) hBb e4)⟩)
    ((first
      | (go_at_call 45; refine (push_back b _ _ (by exact hbW)).mono ?_; rintro e w2 ⟨rfl, hP2⟩; obtain ⟨w3, hr3, hM3, ht3⟩ := (hMW.of_block (hP2.2.2.2.2.2.2.2 M hMW.lt hMb)).update Yba.underlying73 (by unfold maxLen; omega) hid (.pointer (some ⟨W.heap.size, 0, none⟩)) rfl)
      | fail))
  have hgr := ht3.grown
  obtain ⟨p1, p2, p3, p4, p5, p6, p7, p8⟩ := hP2
  have hbM : b ≠ M := hMb.symm
  have hsz2 : w2.heap.size = W.heap.size + 1 := p4
  have r1 : w3.heap[b]? = some (.cells (oneL W.heap.size) 151 (0, 0)) := (hgr.block b (Array.getElem?_eq_some_iff.1 p7).1 (by simpa using hbM)).trans p7
  have hMlW : M < W.heap.size := hMW.lt
  have r2 : w3.heap[W.heap.size]? = some (.cells (elemL b (.iface 143 (.agg (remC id lo hi z port a n c)))) 145 (0, 0)) := (hgr.block W.heap.size (Array.getElem?_eq_some_iff.1 p6).1 (by simp; omega)).trans p6
  have hTW : T < W.heap.size := by have := hB.size; omega
  have hd : ∀ i v, W.cell? ⟨T, i, none⟩ = some v → w3.cell? ⟨T, i, none⟩ = some v := fun i v hv => turn_cell ht3 hTM (by rw [World.cell?_of_block (w := W) (p8 T hTW hTb)]; exact hv)
  have x0 := hd _ _ d0
  have x2 := hd _ _ d2
  have x4 : w3.cell? ⟨b, 4, none⟩ = some (.int .i64 1) := cell_of_row w3 b 4 _ _ _ r1
  have hfin : w3.os = w.os ∧ w3.tape = w.tape ∧ w3.output = w.output ∧ w.heap.size ≤ w3.heap.size ∧ (∀ q, q < w.heap.size → q ≠ M → q ≠ b → w3.heap[q]? = w.heap[q]?) := by
    refine ⟨hgr.os.trans (p1.trans hB.os), hgr.tape.trans (p2.trans hB.tape), hgr.output.trans (p3.trans hB.output), by have := hgr.size; have := hB.size; omega, fun q hq hqM hqb => ?_⟩
    have hqW : q < W.heap.size := by have := hB.size; omega
    exact (hgr.block q (by omega) (by simpa using hqM)).trans ((p8 q hqW hqb).trans (hB.block q hq))
  clear hgr p1 p2 p3 p4 p5 p6 p7 p8 hd d0 d1 d2 e0 e1 e2 e3 e4 ht3
  go_upto_region 6 with fail
  go_quiet ((go_at_call 34; exact Calls.quiet_of_same (list_len b 1 _ (by exact x4))))
  go_wp2
  go_end0
  exact ⟨rfl, hfin.1, hfin.2.1, hfin.2.2.1, hfin.2.2.2.1, hfin.2.2.2.2, _, r2, r1⟩

end Go.Proofs.Ybulkcrtu
