import Derived.Test.YbulkcrtuA
namespace Go.Proofs.Ybulkcrtu
open Go.RowKit

theorem info76 : (Yba.prog.info? 76).map (·.size) = some 3 := by kernel_rfl
/-- An empty list at block b. -/
def emptyL (b : Nat) : Array Value := #[.pointer (some ⟨b, 0, none⟩), .pointer (some ⟨b, 0, none⟩), .pointer none, .nilIface, .int .i64 0]

theorem list_new (w : World) : Calls Yba.prog 25 #[] w fun e w' => e = .returned (.pointer (some ⟨w.heap.size, 0, none⟩)) ∧ w' = w.alloc (.cells (emptyL w.heap.size) 151) := by
  go_enter Yba.func25, Yba.ntmps25
  go_wp2
  go_ret
  exact ⟨rfl, rfl⟩

theorem map_new (w : World) : Calls Yba.prog 12 #[.int .i64 1024] w fun e w' => e = .returned (.agg #[.int .i64 1024, .map (some (w.heap.size + 1)), .pointer (some ⟨w.heap.size + 2, 0, none⟩)]) ∧
    w' = ((w.alloc (.cells #[.int .i64 1024, .map (some (w.heap.size + 1)), .pointer (some ⟨w.heap.size + 2, 0, none⟩)] 76)).alloc (.map #[] 0)).alloc (.cells (emptyL (w.heap.size + 2)) 151) := by
  have hmk : ∀ w : World, (Instr.makeMap 73 none).run Yba.prog w = .ok (.map (some w.heap.size)) (w.alloc (.map #[] 0)) := fun _ => rfl
  go_enter Yba.func12, Yba.ntmps12
  go_wp2_with (first
    | (go_at_call 25; refine (list_new _).mono ?_; rintro e w2 ⟨rfl, rfl⟩)
    | fail)
  refine bodyPost_ret (results_cell_row rfl _ _ w.heap.size 76 _ (0, 0) _ rfl (blk_keep (blk_keep (heap1a _ _))) Yba.underlying76 rfl info76) rfl ?_
  exact ⟨rfl, rfl⟩

/-- A list of one element, at block N. -/
def oneL (N : Nat) : Array Value := #[.pointer (some ⟨N, 0, none⟩), .pointer (some ⟨N, 0, none⟩), .pointer none, .nilIface, .int .i64 1]
def elemL (b : Nat) (x : Value) : Array Value := #[.pointer (some ⟨b, 0, none⟩), .pointer (some ⟨b, 0, none⟩), .pointer (some ⟨b, 0, none⟩), x]

set_option maxHeartbeats 1000000 in
theorem list_insert (b N : Nat) (v : Value) (w : World) (hne : N ≠ b) (hb : w.heap[b]? = some (.cells (emptyL b) 151 (0, 0))) (hN : w.heap[N]? = some (.cells #[.pointer none, .pointer none, .pointer none, .iface 143 v] 145 (0, 0))) :
    Calls Yba.prog 70 #[.pointer (some ⟨b, 0, none⟩), .pointer (some ⟨N, 0, none⟩), .pointer (some ⟨b, 0, none⟩)] w fun e w' => e = .returned (.pointer (some ⟨N, 0, none⟩)) ∧
      w' = (((((w.setCell ⟨N, 1, none⟩ (.pointer (some ⟨b, 0, none⟩))).setCell ⟨N, 0, none⟩ (.pointer (some ⟨b, 0, none⟩))).setCell ⟨b, 0, none⟩ (.pointer (some ⟨N, 0, none⟩))).setCell ⟨b, 1, none⟩ (.pointer (some ⟨N, 0, none⟩))).setCell ⟨N, 2, none⟩ (.pointer (some ⟨b, 0, none⟩))).setCell ⟨b, 4, none⟩ (.int .i64 1) := by
  have b0 := cell_of_row w b 0 _ _ _ hb
  have b1 := cell_of_row w b 1 _ _ _ hb
  have b4 := cell_of_row w b 4 _ _ _ hb
  have n0 := cell_of_row w N 0 _ _ _ hN
  have n1 := cell_of_row w N 1 _ _ _ hN
  have n2 := cell_of_row w N 2 _ _ _ hN
  have fb0 := frozen_of_row w b 0 _ _ hb
  have fb1 := frozen_of_row w b 1 _ _ hb
  have fb4 := frozen_of_row w b 4 _ _ hb
  have fn0 := frozen_of_row w N 0 _ _ hN
  have fn1 := frozen_of_row w N 1 _ _ hN
  have fn2 := frozen_of_row w N 2 _ _ hN
  have hne' := hne.symm
  simp only [emptyL] at b0 b1 b4
  go_enter Yba.func70, Yba.ntmps70
  go_wp2
  go_ret
  exact ⟨rfl, rfl⟩

/-- What an insertion into an empty list leaves. -/
def Pushed (b N : Nat) (x : Value) (w w' : World) : Prop :=
  w'.os = w.os ∧ w'.tape = w.tape ∧ w'.output = w.output ∧ w'.heap.size = w.heap.size + 1 ∧ N = w.heap.size ∧ w'.heap[N]? = some (.cells (elemL b x) 145 (0, 0)) ∧ w'.heap[b]? = some (.cells (oneL N) 151 (0, 0)) ∧ ∀ q, q < w.heap.size → q ≠ b → w'.heap[q]? = w.heap[q]?

theorem lazy_any (b : Nat) (a : Addr) (w : World) (h : w.cell? ⟨b, 0, none⟩ = some (.pointer (some a))) : Calls Yba.prog 58 #[.pointer (some ⟨b, 0, none⟩)] w fun e w' => e = .returned (.tuple #[]) ∧ w' = w := by
  go_enter Yba.func58, Yba.ntmps58
  go_wp2
  go_end0
  exact ⟨rfl, rfl⟩

set_option maxHeartbeats 1000000 in
theorem list_insertValue (b : Nat) (v : Value) (w : World) (hb : w.heap[b]? = some (.cells (emptyL b) 151 (0, 0))) :
    Calls Yba.prog 59 #[.pointer (some ⟨b, 0, none⟩), .iface 143 v, .pointer (some ⟨b, 0, none⟩)] w fun e w' => e = .returned (.pointer (some ⟨w.heap.size, 0, none⟩)) ∧ Pushed b w.heap.size (.iface 143 v) w w' := by
  have hbl := (Array.getElem?_eq_some_iff.1 hb).1
  go_enter Yba.func59, Yba.ntmps59
  go_wp2_with (first
    | (go_at_call 70; refine Hid.out ?_)
    | fail)
  unfold Hid
  obtain ⟨N, hN⟩ : ∃ N, N = w.heap.size := ⟨_, rfl⟩
  generalize hW : World.alloc _ _ = W
  have hbW : W.heap[b]? = some (.cells (emptyL b) 151 (0, 0)) := by rw [← hW]; exact blk_keep hb
  have hNW : W.heap[N]? = some (.cells #[.pointer none, .pointer none, .pointer none, .iface 143 v] 145 (0, 0)) := by rw [← hW, hN]; exact heap1a _ _
  have hne : N ≠ b := by omega
  have hs : W.heap.size = w.heap.size + 1 := by rw [← hW]; simp
  have hB : Below w.heap.size w W := by rw [← hW]; exact below_alloc _ _
  rw [← hN]
  have HN : Hid (N = w.heap.size) := hN
  clear hN
  refine (list_insert b N v W hne hbW hNW).mono ?_
  rintro e w' ⟨rfl, hw'⟩
  have hP : Pushed b N (.iface 143 v) w w' := by
    obtain ⟨W1, h1⟩ : ∃ W1, W1 = W.setCell ⟨N, 1, none⟩ (.pointer (some ⟨b, 0, none⟩)) := ⟨_, rfl⟩
    obtain ⟨W2, h2⟩ : ∃ W2, W2 = W1.setCell ⟨N, 0, none⟩ (.pointer (some ⟨b, 0, none⟩)) := ⟨_, rfl⟩
    obtain ⟨W3, h3⟩ : ∃ W3, W3 = W2.setCell ⟨b, 0, none⟩ (.pointer (some ⟨N, 0, none⟩)) := ⟨_, rfl⟩
    obtain ⟨W4, h4⟩ : ∃ W4, W4 = W3.setCell ⟨b, 1, none⟩ (.pointer (some ⟨N, 0, none⟩)) := ⟨_, rfl⟩
    obtain ⟨W5, h5⟩ : ∃ W5, W5 = W4.setCell ⟨N, 2, none⟩ (.pointer (some ⟨b, 0, none⟩)) := ⟨_, rfl⟩
    rw [← h1, ← h2, ← h3, ← h4, ← h5] at hw'
    have x1 : W1.heap[N]? = some (.cells #[.pointer none, .pointer (some ⟨b, 0, none⟩), .pointer none, .iface 143 v] 145 (0, 0)) := by rw [h1]; exact heap_setCell_same _ _ _ _ _ _ hNW
    have x2 : W2.heap[N]? = some (.cells #[.pointer (some ⟨b, 0, none⟩), .pointer (some ⟨b, 0, none⟩), .pointer none, .iface 143 v] 145 (0, 0)) := by rw [h2]; exact heap_setCell_same _ _ _ _ _ _ x1
    have x3 := (by rw [h3]; exact heap_setCell_other _ _ _ _ hne : W3.heap[N]? = W2.heap[N]?).trans x2
    have x4 := (by rw [h4]; exact heap_setCell_other _ _ _ _ hne : W4.heap[N]? = W3.heap[N]?).trans x3
    have x5 : W5.heap[N]? = some (.cells (elemL b (.iface 143 v)) 145 (0, 0)) := by rw [h5]; exact heap_setCell_same _ _ _ _ _ _ x4
    have x6 := (by rw [hw']; exact heap_setCell_other _ _ _ _ hne : w'.heap[N]? = W5.heap[N]?).trans x5
    have y1 := (by rw [h1]; exact heap_setCell_other _ _ _ _ hne.symm : W1.heap[b]? = W.heap[b]?).trans hbW
    have y2 := (by rw [h2]; exact heap_setCell_other _ _ _ _ hne.symm : W2.heap[b]? = W1.heap[b]?).trans y1
    have y3 : W3.heap[b]? = some (.cells #[.pointer (some ⟨N, 0, none⟩), .pointer (some ⟨b, 0, none⟩), .pointer none, .nilIface, .int .i64 0] 151 (0, 0)) := by rw [h3]; exact heap_setCell_same _ _ _ _ _ _ y2
    have y4 : W4.heap[b]? = some (.cells #[.pointer (some ⟨N, 0, none⟩), .pointer (some ⟨N, 0, none⟩), .pointer none, .nilIface, .int .i64 0] 151 (0, 0)) := by rw [h4]; exact heap_setCell_same _ _ _ _ _ _ y3
    have y5 := (by rw [h5]; exact heap_setCell_other _ _ _ _ hne.symm : W5.heap[b]? = W4.heap[b]?).trans y4
    have y6 : w'.heap[b]? = some (.cells (oneL N) 151 (0, 0)) := by rw [hw']; exact heap_setCell_same _ _ _ _ _ _ y5
    have sc : ∀ (u : World) (p : Addr) (z : Value), (u.setCell p z).os = u.os ∧ (u.setCell p z).tape = u.tape ∧ (u.setCell p z).output = u.output ∧ (u.setCell p z).heap.size = u.heap.size := fun u p z => ⟨rfl, rfl, rfl, by simp [World.setCell]⟩
    have z1 := sc W ⟨N, 1, none⟩ (.pointer (some ⟨b, 0, none⟩))
    have z2 := sc W1 ⟨N, 0, none⟩ (.pointer (some ⟨b, 0, none⟩))
    have z3 := sc W2 ⟨b, 0, none⟩ (.pointer (some ⟨N, 0, none⟩))
    have z4 := sc W3 ⟨b, 1, none⟩ (.pointer (some ⟨N, 0, none⟩))
    have z5 := sc W4 ⟨N, 2, none⟩ (.pointer (some ⟨b, 0, none⟩))
    have z6 := sc W5 ⟨b, 4, none⟩ (.int .i64 1)
    rw [← h1] at z1
    rw [← h2] at z2
    rw [← h3] at z3
    rw [← h4] at z4
    rw [← h5] at z5
    rw [← hw'] at z6
    have hNe := HN.out
    refine ⟨z6.1.trans (z5.1.trans (z4.1.trans (z3.1.trans (z2.1.trans (z1.1.trans hB.os))))), z6.2.1.trans (z5.2.1.trans (z4.2.1.trans (z3.2.1.trans (z2.2.1.trans (z1.2.1.trans hB.tape))))), z6.2.2.1.trans (z5.2.2.1.trans (z4.2.2.1.trans (z3.2.2.1.trans (z2.2.2.1.trans (z1.2.2.1.trans hB.output))))), by omega, hNe, x6, y6, fun q hq hqb => ?_⟩
    have hqN : q ≠ N := by omega
    rw [hw', heap_setCell_other _ _ _ _ hqb, h5, heap_setCell_other _ _ _ _ hqN, h4, heap_setCell_other _ _ _ _ hqb, h3, heap_setCell_other _ _ _ _ hqb, h2, heap_setCell_other _ _ _ _ hqN, h1, heap_setCell_other _ _ _ _ hqN]
    exact hB.block q hq
  clear hw'
  go_wp2
  go_ret
  rw [← HN.out]
  exact ⟨rfl, hP⟩

set_option maxHeartbeats 1000000 in
theorem push_back (b : Nat) (v : Value) (w : World) (hb : w.heap[b]? = some (.cells (emptyL b) 151 (0, 0))) :
    Calls Yba.prog 45 #[.pointer (some ⟨b, 0, none⟩), .iface 143 v] w fun e w' => e = .returned (.pointer (some ⟨w.heap.size, 0, none⟩)) ∧ Pushed b w.heap.size (.iface 143 v) w w' := by
  have b0 := cell_of_row w b 0 _ _ _ hb
  have b1 := cell_of_row w b 1 _ _ _ hb
  simp only [emptyL] at b0 b1
  have hlz := lazy_any b _ w b0
  have hiv := list_insertValue b v w hb
  go_enter Yba.func45, Yba.ntmps45
  go_wp2_with (first
    | (go_at_call 58; refine hlz.mono ?_; rintro e w2 ⟨rfl, hw2⟩; subst hw2)
    | (go_at_call 59; refine hiv.mono ?_; rintro e w2 ⟨rfl, hw2⟩)
    | fail)
  go_ret
  exact ⟨rfl, by assumption⟩

theorem list_len (b : Nat) (n : Int) (w : World) (h : w.cell? ⟨b, 4, none⟩ = some (.int .i64 n)) : Calls Yba.prog 34 #[.pointer (some ⟨b, 0, none⟩)] w fun e w' => e = .returned (.int .i64 n) ∧ w' = w := by
  go_enter Yba.func34, Yba.ntmps34
  go_wp2
  go_ret
  exact ⟨rfl, rfl⟩
theorem list_front (b N : Nat) (w : World) (h : w.cell? ⟨b, 4, none⟩ = some (.int .i64 1)) (h0 : w.cell? ⟨b, 0, none⟩ = some (.pointer (some ⟨N, 0, none⟩))) : Calls Yba.prog 35 #[.pointer (some ⟨b, 0, none⟩)] w fun e w' => e = .returned (.pointer (some ⟨N, 0, none⟩)) ∧ w' = w := by
  go_enter Yba.func35, Yba.ntmps35
  go_wp2
  go_ret
  exact ⟨rfl, rfl⟩
/-- recent's Len: the receiver at ⟨T, o⟩. -/
theorem map_len (T o b : Nat) (n : Int) (w : World) (h : w.cell? ⟨T, o + 2, none⟩ = some (.pointer (some ⟨b, 0, none⟩))) (h4 : w.cell? ⟨b, 4, none⟩ = some (.int .i64 n)) : Calls Yba.prog 16 #[.pointer (some ⟨T, o, none⟩)] w fun e w' => e = .returned (.int .i64 n) ∧ w' = w := by
  have hl := list_len b n w h4
  go_enter Yba.func16, Yba.ntmps16
  go_wp2_with (first
    | (go_at_call 34; refine hl.mono ?_; rintro e w2 ⟨rfl, hw2⟩; subst hw2)
    | fail)
  go_ret
  exact ⟨rfl, rfl⟩

end Go.Proofs.Ybulkcrtu
