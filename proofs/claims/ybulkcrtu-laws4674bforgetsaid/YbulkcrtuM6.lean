import Derived.Test.YbulkcrtuM5
namespace Go.Proofs.Ybulkcrtu
open Go.RowKit Go.ChangeMaps Go.MapKept Go.MuLone

/-- The cells of m times that are nought. -/
def zt : Nat → List Value
  | 0 => []
  | m + 1 => [.int .u64 0, .int .i64 0, .pointer none] ++ zt m
theorem zt_len : ∀ m, (zt m).length = m * 3
  | 0 => rfl
  | m + 1 => by show (_ ++ zt m).length = _; rw [List.length_append, zt_len m]; simp; omega
theorem make78 : ∀ (cnt : Nat), cnt ≤ 5 → ∀ w : World, (Instr.makeSlice 78 (.int .i64 (cnt : Int)) (.int .i64 (cnt : Int))).run Yba.prog w = .ok (.slice (some ⟨w.heap.size, 0, none⟩) cnt cnt) (w.alloc (.cells (zt cnt).toArray 118))
  | 0, _, w => by kernel_rfl
  | 1, _, w => by kernel_rfl
  | 2, _, w => by kernel_rfl
  | 3, _, w => by kernel_rfl
  | 4, _, w => by kernel_rfl
  | 5, _, w => by kernel_rfl
  | n + 6, h, _ => by omega

theorem zt_at (k m : Nat) : (tcells k ++ zt (m + 1)).toArray[k * 3]? = some (.int .u64 0) ∧ (tcells k ++ zt (m + 1)).toArray[k * 3 + 1]? = some (.int .i64 0) ∧ (tcells k ++ zt (m + 1)).toArray[k * 3 + 2]? = some (.pointer none) := by
  have hl := tcells_len k
  rw [List.getElem?_toArray, List.getElem?_toArray, List.getElem?_toArray]
  rw [List.getElem?_append_right (by omega), List.getElem?_append_right (by omega), List.getElem?_append_right (by omega), hl, Nat.sub_self, Nat.add_sub_cancel_left, Nat.add_sub_cancel_left]
  exact ⟨rfl, rfl, rfl⟩
theorem zt_lay (k m : Nat) : (((tcells k ++ zt (m + 1)).toArray.setIfInBounds (k * 3) (.int .u64 ((k : Int) + 1))).setIfInBounds (k * 3 + 1) (.int .i64 0)).setIfInBounds (k * 3 + 2) (.pointer none) = (tcells (k + 1) ++ zt m).toArray := by
  have hl := tcells_len k
  rw [List.setIfInBounds_toArray, List.setIfInBounds_toArray, List.setIfInBounds_toArray]
  rw [List.set_append_right _ _ (by omega), List.set_append_right _ _ (by omega), List.set_append_right _ _ (by omega), hl, Nat.sub_self, Nat.add_sub_cancel_left, Nat.add_sub_cancel_left]
  show (tcells k ++ ([Value.int .u64 ((k : Int) + 1), Value.int .i64 0, Value.pointer none] ++ zt m)).toArray = (tcells k ++ [Value.int .u64 ((k + 1 : Nat) : Int), Value.int .i64 0, Value.pointer none] ++ zt m).toArray
  rw [List.append_assoc]
  rfl
/-- Nothing but the block S is turned. -/
def Off (S : Nat) (U V : World) : Prop := V.os = U.os ∧ V.tape = U.tape ∧ V.output = U.output ∧ U.heap.size ≤ V.heap.size ∧ ∀ q, q < U.heap.size → q ≠ S → V.heap[q]? = U.heap[q]?

set_option maxRecDepth 100000 in
set_option maxHeartbeats 8000000 in
/-- The address and the times are laid. -/
theorem sent_walk (co : Code) (hcd : IsTail 7 co) (A : Act) (hA : A.tmps.size = 303) (hAd : A.defers = []) (a0 : Option Addr) (n cap T b ch M Ma sz s : Nat) (z : Nat → Int) (id port nn : Int) (stranger ans : Bool) (blk : Int → Option Nat) (buf : Array Value) (w W : World)
    (e0 : A.eval (.tmp 0) = .slice a0 n cap) (e3 : A.eval (.tmp 3) = .bool stranger) (e4 : A.eval (.tmp 4) = .int .u8 nn) (e5 : A.eval (.tmp 5) = .bool ans) (e6 : A.eval (.tmp 6) = .int .u16 port) (e15 : A.eval (.tmp 15) = .pointer (some ⟨T, 0, none⟩)) (e19 : A.eval (.tmp 19) = .int .u32 id)
    (h : UArg w a0 n z) (hn : n ≤ 1024) (hid : Id id) (hnn0 : 0 ≤ nn) (hnn1 : nn ≤ 255) (hSt : St w W T ch M Ma b n z sz blk buf s) :
    co.wp Yba.prog (bodyPost Yba.prog Yba.f4 (fun e w' => e = .returned (.bool true) ∧ Below w.heap.size w w')) A W := by
  obtain ⟨bd, hbd, rfl⟩ := hcd
  simp only [Yba.f4, Option.some.injEq] at hbd
  subst hbd
  obtain ⟨g, hg, rfl⟩ := frame303 A hA hAd
  rw [hg] at e0 e3 e4 e5 e6 e15 e19
  rw [← putTail_self 4 (dropC 7 _)]
  generalize hX : dropC 4 (dropC 7 _) = X
  have hXt : IsTail 11 X := ⟨_, rfl, hX⟩
  clear hX
  simp only [dropC, putTail, e0, e3, e4, e5, e6, e15, e19]
  clear e0 e3 e4 e5 e6 e15 e19 hg hA hAd
  generalize hQd : bodyPost Yba.prog Yba.f4 _ = Q
  obtain ⟨cnt, hcnt⟩ : ∃ cnt : Nat, (cnt : Int) = nn % 6 := ⟨(nn % 6).toNat, by omega⟩
  have hap := ap_any port W
  simp only [apV] at hap
  go_upto_region 17 with (first
    | (go_at_call 13; refine hap.mono ?_; rintro e w1 ⟨rfl, hB1⟩)
    | fail)
  rw [← hcnt]
  obtain ⟨hB, hT0, hch0, hM0, hMa0, hb0, hMMa, hT, hch, hbs, hM, hMa, hb, hdom, hcalls⟩ := hSt
  obtain ⟨P, hPd⟩ : ∃ P, P = w1.heap.size := ⟨_, rfl⟩
  rw [← hPd]
  obtain ⟨U1, hU1d⟩ : ∃ U1, U1 = w1.alloc (.cells #[.int .u64 0, .int .u64 0, .pointer none, .int .u16 port] 37) := ⟨_, rfl⟩
  rw [← hU1d]
  have hBU1 : Below W.heap.size W U1 := by rw [hU1d]; exact below_al0 hB1
  have hPU1 : U1.heap[P]? = some (.cells #[.int .u64 0, .int .u64 0, .pointer none, .int .u16 port] 37 (0, 0)) := by rw [hU1d, hPd]; exact heap1a _ _
  clear hU1d hPd hB1 hap
  have hc5 : cnt ≤ 5 := by omega
  clear hcnt
  have hmk := make78 cnt hc5 U1
  go_wp2_with fail
  obtain ⟨S, hSd⟩ : ∃ S, S = U1.heap.size := ⟨_, rfl⟩
  rw [← hSd]
  obtain ⟨U2, hU2d⟩ : ∃ U2, U2 = U1.alloc (.cells (zt cnt).toArray 118) := ⟨_, rfl⟩
  rw [← hU2d]
  have hBU2 : Below U1.heap.size U1 U2 := by rw [hU2d]; exact below_alloc _ _
  have hSU2 : U2.heap[S]? = some (.cells (zt cnt).toArray 118 (0, 0)) := by rw [hU2d, hSd]; exact heap1a _ _
  have hSn : ∀ q, q < U1.heap.size → q ≠ S := fun q hq => by omega
  clear hU2d hmk hSd
  have hSl := (Array.getElem?_eq_some_iff.1 hSU2).1
  go_loopw [23] (fun i wr => ∃ k : Nat, k ≤ cnt ∧ i = .int .i64 k ∧ wr.heap[S]? = some (.cells (tcells k ++ zt (cnt - k)).toArray 118 (0, 0)) ∧ Off S U2 wr) (fun i _ => cnt - (intOf i).toNat)
  case atStart => exact ⟨0, by omega, rfl, hSU2, rfl, rfl, rfl, Nat.le_refl _, fun _ _ _ => rfl⟩
  case round =>
    obtain ⟨k, hk, rfl, hSr, o1, o2, o3, o4, o5⟩ := hrel
    by_cases hlt : k < cnt
    · have hlt' : (k : Int) < (cnt : Int) := by omega
      obtain ⟨m, hm⟩ : ∃ m, cnt - k = m + 1 := ⟨cnt - k - 1, by omega⟩
      rw [hm] at hSr
      obtain ⟨z0, z1, z2⟩ := zt_at k m
      have hwr : IntKind.i64.wrap ((k : Int) + 1) = (k : Int) + 1 := by rw [IntKind.wrap_i64]; omega
      have hadd : ∀ u, Calls Yba.prog 14 #[.agg #[.int .u64 0, .int .i64 0, .pointer none], .int .i64 ((k : Int) + 1)] u fun e w' => e = .returned (.agg #[.int .u64 ((k : Int) + 1), .int .i64 0, .pointer none]) ∧ Below u.heap.size u w' := add_any (k + 1) (by omega) (by omega)
      go_wp2_with (first
        | (go_at_call 14; refine (hadd _).mono ?_; rintro e w6 ⟨rfl, hB6⟩
           have hS6 : w6.heap[S]? = some (.cells (tcells k ++ zt (m + 1)).toArray 118 (0, 0)) := (hB6.block S (by omega)).trans hSr
           have c0 : w6.cell? ⟨S, k * 3, none⟩ = some (.int .u64 0) := (cell_of_row w6 S (k * 3) _ _ _ hS6).trans z0
           have c1 : w6.cell? ⟨S, k * 3 + 1, none⟩ = some (.int .i64 0) := (cell_of_row w6 S (k * 3 + 1) _ _ _ hS6).trans z1
           have c2 : w6.cell? ⟨S, k * 3 + 2, none⟩ = some (.pointer none) := (cell_of_row w6 S (k * 3 + 2) _ _ _ hS6).trans z2
           have f0 := frozen_of_row w6 S (k * 3) _ _ hS6
           have f1 := frozen_of_row w6 S (k * 3 + 1) _ _ hS6
           have f2 := frozen_of_row w6 S (k * 3 + 2) _ _ hS6)
        | fail)
      have hcm : cnt - (k + 1) = m := by omega
      refine ⟨⟨k + 1, by omega, by go_num, ?_, ?_⟩, by simp [intOf]; omega⟩
      · rw [hcm, ← zt_lay]
        exact heap_setCell_same _ _ _ _ _ _ (heap_setCell_same _ _ _ _ _ _ (heap_setCell_same _ _ _ _ _ _ hS6))
      · refine ⟨?_, ?_, ?_, ?_, fun q hq hqS => ?_⟩
        · simp only [sc_os]; exact hB6.os.trans o1
        · simp only [sc_tape]; exact hB6.tape.trans o2
        · simp only [sc_output]; exact hB6.output.trans o3
        · have := hB6.size
          simp [World.setCell]
          omega
        · rw [heap_setCell_other _ _ _ _ hqS, heap_setCell_other _ _ _ _ hqS, heap_setCell_other _ _ _ _ hqS, hB6.block q (by omega)]
          exact o5 q hq hqS
    · have hk' : k = cnt := by omega
      subst hk'
      have hlt' : ¬ (k : Int) < (k : Int) := by omega
      go_wp2
      have s1 := hBU1.size
      have s2 := hBU2.size
      have hSr' : wr.heap[S]? = some (.cells (tcells k).toArray 118 (0, 0)) := by
        rw [hSr, Nat.sub_self]
        simp [zt]
      have hk1 : ∀ q, q < U1.heap.size → wr.heap[q]? = U1.heap[q]? := fun q hq => (o5 q (by omega) (hSn q hq)).trans (hBU2.block q hq)
      have hk0 : ∀ q, q < W.heap.size → wr.heap[q]? = W.heap[q]? := fun q hq => (hk1 q (by omega)).trans (hBU1.block q hq)
      have hk2 : ∀ q o, W.heap[q]? = some o → wr.heap[q]? = some o := fun q o h => (hk0 q (Array.getElem?_eq_some_iff.1 h).1).trans h
      have hBr : Below w.heap.size w wr := by
        have := hB.size
        exact ⟨o1.trans (hBU2.os.trans (hBU1.os.trans hB.os)), o2.trans (hBU2.tape.trans (hBU1.tape.trans hB.tape)), o3.trans (hBU2.output.trans (hBU1.output.trans hB.output)), by omega, fun q hq => (hk0 q (by omega)).trans (hB.block q hq)⟩
      rw [← hQd]
      refine mid_walk X hXt _ ?_ ?_ a0 n cap T P b S ch M Ma sz k s z id port stranger ans blk buf w wr ?_ ?_ ?_ ?_ ?_ ?_ ?_ ?_ h hn hid hc5 hBr hch0 hM0 hMa0 hb0 hMMa (hk2 _ _ hT) ((hk1 P (Array.getElem?_eq_some_iff.1 hPU1).1).trans hPU1) hSr' (hk2 _ _ hch) hbs (hM.of_block (hk0 M hM.lt)) (hMa.of_block (hk0 Ma hMa.lt)) (hk2 _ _ hb) (fun i hi => ?_) (fun x d hd => ⟨hk2 _ _ (hcalls x d hd).1, (hcalls x d hd).2⟩)
      all_goals first | rfl | skip
      rcases h with h | ⟨bY, oY, rfl, h⟩
      · omega
      · exact (hdom (z i) (h i hi).2).2 ⟨i, hi, rfl⟩

end Go.Proofs.Ybulkcrtu
