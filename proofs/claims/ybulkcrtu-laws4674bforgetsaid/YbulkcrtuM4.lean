import Derived.Test.YbulkcrtuM4a
namespace Go.Proofs.Ybulkcrtu
open Go.RowKit Go.ChangeMaps Go.MapKept Go.MuLone

theorem sc_os (w : World) (a : Addr) (v : Value) : (w.setCell a v).os = w.os := rfl
theorem sc_tape (w : World) (a : Addr) (v : Value) : (w.setCell a v).tape = w.tape := rfl
theorem sc_output (w : World) (a : Addr) (v : Value) : (w.setCell a v).output = w.output := rfl
theorem extract_size (buf : Array Value) : (buf.extract 1 buf.size).size = buf.size - 1 := by simp

set_option maxRecDepth 100000 in
set_option maxHeartbeats 8000000 in
/-- The call is told whom it went to, and forgotten. -/
theorem forget_mid (co : Code) (hcd : IsTail 14 co) (A : Act) (hA : A.tmps.size = 303) (hAd : A.defers = []) (a0 : Option Addr) (n cap T P b c S ch M Ma sz cnt s : Nat) (z : Nat → Int) (id port : Int) (ans : Bool) (blk : Int → Option Nat) (buf : Array Value) (w W : World)
    (e0 : A.eval (.tmp 0) = .slice a0 n cap) (e5 : A.eval (.tmp 5) = .bool ans) (e15 : A.eval (.tmp 15) = .pointer (some ⟨T, 0, none⟩)) (e19 : A.eval (.tmp 19) = .int .u32 id) (e20 : A.eval (.tmp 20) = .pointer (some ⟨P, 0, none⟩)) (e21 : A.eval (.tmp 21) = .int .i64 (cnt : Int)) (e22 : A.eval (.tmp 22) = .slice (some ⟨S, 0, none⟩) cnt cnt) (e24 : A.eval (.tmp 24) = ptr (blk id)) (e25 : A.eval (.tmp 25) = .pointer (some ⟨c, 0, none⟩))
    (h : UArg w a0 n z) (hn : n ≤ 1024) (hid : Id id) (hc5 : cnt ≤ 5) (hB : Below w.heap.size w W) (hch0 : w.heap.size ≤ ch) (hM0 : w.heap.size ≤ M) (hMa0 : w.heap.size ≤ Ma) (hb0 : w.heap.size ≤ b) (hc0 : w.heap.size ≤ c) (hMMa : M ≠ Ma) (hT : W.heap[T]? = some (.cells (trC 0 ch M Ma b) 96 (0, 0))) (hP : W.heap[P]? = some (.cells #[.int .u64 0, .int .u64 0, .pointer none, .int .u16 port] 37 (0, 0))) (hS : W.heap[S]? = some (.cells (tcells cnt).toArray 118 (0, 0)))
    (hch : W.heap[ch]? = some (.chan 1024 buf false s 0 false)) (hbs : buf.size = sz) (hM : MapU W M n sz (fOf blk)) (hMa : MapU W Ma 0 0 (fun _ => none)) (hb : W.heap[b]? = some (.cells (emptyL b) 151 (0, 0))) (hdom : ∀ i, i < n → (blk (z i)).isSome = true) (hc : W.heap[c]? = some (.cells (callC id) 114 (0, 0))) (hbl : ∀ d, blk id = some d → ∃ ca, W.heap[d]? = some (.cells ca 114 (0, 0))) :
    co.wp Yba.prog (bodyPost Yba.prog Yba.f4 (fun e w' => e = .returned (.bool true) ∧ Below w.heap.size w w')) A W := by
  obtain ⟨bd, hbd, rfl⟩ := hcd
  simp only [Yba.f4, Option.some.injEq] at hbd
  subst hbd
  obtain ⟨g, hg, rfl⟩ := frame303 A hA hAd
  rw [hg] at e0 e5 e15 e19 e20 e21 e22 e24 e25
  rw [← putTail_self 5 (dropC 14 _)]
  generalize hX : dropC 5 (dropC 14 _) = X
  have hXt : IsTail 19 X := ⟨_, rfl, hX⟩
  clear hX
  simp only [dropC, putTail, e0, e5, e15, e19, e20, e21, e22, e24, e25]
  clear e0 e5 e15 e19 e20 e21 e22 e24 e25 hg hA hAd
  generalize hQd : bodyPost Yba.prog Yba.f4 _ = Q
  have q0 : W.cell? ⟨P, 0, none⟩ = some (.int .u64 0) := cell_of_row W P 0 _ _ _ hP
  have q1 : W.cell? ⟨P, 1, none⟩ = some (.int .u64 0) := cell_of_row W P 1 _ _ _ hP
  have q2 : W.cell? ⟨P, 2, none⟩ = some (.pointer none) := cell_of_row W P 2 _ _ _ hP
  have q3 : W.cell? ⟨P, 3, none⟩ = some (.int .u16 port) := cell_of_row W P 3 _ _ _ hP
  obtain ⟨h1, h2, h3, h4, h5, h6, h7, h8⟩ := callC_at id
  have r0 : W.cell? ⟨c, 259, none⟩ = some (.int .u64 0) := (cell_of_row W c 259 _ _ _ hc).trans h2
  have r1 : W.cell? ⟨c, 260, none⟩ = some (.int .u64 0) := (cell_of_row W c 260 _ _ _ hc).trans h3
  have r2 : W.cell? ⟨c, 261, none⟩ = some (.pointer none) := (cell_of_row W c 261 _ _ _ hc).trans h4
  have r3 : W.cell? ⟨c, 262, none⟩ = some (.int .u16 0) := (cell_of_row W c 262 _ _ _ hc).trans h5
  have r4 : W.cell? ⟨c, 271, none⟩ = some (.slice none 0 0) := (cell_of_row W c 271 _ _ _ hc).trans h7
  have r5 : W.cell? ⟨c, 272, none⟩ = some (.bool false) := (cell_of_row W c 272 _ _ _ hc).trans h8
  have f0 := frozen_of_row W c 259 _ _ hc
  have f1 := frozen_of_row W c 260 _ _ hc
  have f2 := frozen_of_row W c 261 _ _ hc
  have f3 := frozen_of_row W c 262 _ _ hc
  have f4 := frozen_of_row W c 271 _ _ hc
  have f5 := frozen_of_row W c 272 _ _ hc
  go_upto_region 30 with fail
  have hTl := (Array.getElem?_eq_some_iff.1 hT).1
  have hTc : T ≠ c := fun e => by rw [e, hc] at hT; simp at hT
  have hPc : P ≠ c := fun e => by rw [e, hc] at hP; simp at hP
  have hSc : S ≠ c := fun e => by rw [e, hc] at hS; simp at hS
  have hchc : ch ≠ c := fun e => by rw [e, hc] at hch; cases hch
  have hbc : b ≠ c := fun e => by rw [e, hc] at hb; simp at hb
  have hMc : M ≠ c := fun e => by obtain ⟨_, _, h⟩ := hM.map; rw [e, hc] at h; cases h
  have hMac : Ma ≠ c := fun e => by obtain ⟨_, _, h⟩ := hMa.map; rw [e, hc] at h; cases h
  obtain ⟨V, hVd⟩ : ∃ V, V = (((((W.setCell ⟨c, 259, none⟩ (.int .u64 0)).setCell ⟨c, 260, none⟩ (.int .u64 0)).setCell ⟨c, 261, none⟩ (.pointer none)).setCell ⟨c, 262, none⟩ (.int .u16 port)).setCell ⟨c, 271, none⟩ (.slice (some ⟨S, 0, none⟩) cnt cnt)).setCell ⟨c, 272, none⟩ (.bool ans) := ⟨_, rfl⟩
  rw [← hVd]
  have hcV : V.heap[c]? = some (.cells (toldC id port S cnt ans) 114 (0, 0)) := by
    rw [hVd]
    unfold toldC
    exact heap_setCell_same _ _ _ _ _ _ (heap_setCell_same _ _ _ _ _ _ (heap_setCell_same _ _ _ _ _ _ (heap_setCell_same _ _ _ _ _ _ (heap_setCell_same _ _ _ _ _ _ (heap_setCell_same _ _ _ _ _ _ hc)))))
  have hVo : ∀ q, q ≠ c → V.heap[q]? = W.heap[q]? := fun q hq => by
    rw [hVd, heap_setCell_other _ _ _ _ hq, heap_setCell_other _ _ _ _ hq, heap_setCell_other _ _ _ _ hq, heap_setCell_other _ _ _ _ hq, heap_setCell_other _ _ _ _ hq, heap_setCell_other _ _ _ _ hq]
  have hVs : V.heap.size = W.heap.size := by rw [hVd]; simp [World.setCell]
  have hBV : Below w.heap.size w V := by
    have hsz := hB.size
    refine ⟨by rw [hVd]; simp only [sc_os]; exact hB.os, by rw [hVd]; simp only [sc_tape]; exact hB.tape, by rw [hVd]; simp only [sc_output]; exact hB.output, by omega, fun q hq => ?_⟩
    rw [hVo q (by omega)]
    exact hB.block q hq
  clear hVd q0 q1 q2 q3 r0 r1 r2 r3 r4 r5 f0 f1 f2 f3 f4 f5 h1 h2 h3 h4 h5 h6 h7 h8
  obtain ⟨t1, t2, t3, t4, t5, t6, t7, t8⟩ := toldC_at id port S cnt ans
  have hTV := (hVo T hTc).trans hT
  have hPV := (hVo P hPc).trans hP
  have hSV := (hVo S hSc).trans hS
  have hchV := (hVo ch hchc).trans hch
  have hbV := (hVo b hbc).trans hb
  have hMV := hM.of_block (hVo M hMc)
  have hMaV := hMa.of_block (hVo Ma hMac)
  have hblV : ∀ d, blk id = some d → ∃ ca, V.heap[d]? = some (.cells ca 114 (0, 0)) := fun d hd => by
    by_cases hdc : d = c
    · subst hdc; exact ⟨_, hcV⟩
    · obtain ⟨ca, h⟩ := hbl d hd
      exact ⟨ca, (hVo d hdc).trans h⟩
  have hlen := hMV.len Yba.underlying72
  have k16 : V.cell? ⟨T, 16, none⟩ = some (.map (some M)) := cell_of_row V T 16 _ _ _ hTV
  have hszn := hM.size_le
  by_cases hbk : blk id = some c
  · have hfg := forget_yes T c S ch M Ma b n sz cnt id port ans blk _ buf s 0 V hid hTV hcV t1 t2 t3 t4 t5 t6 t7 t8 hc5 hSV hMV hbk hchV (by rw [hbs]; exact hM.pos hid (by unfold fOf; rw [hbk]; rfl)) hMaV hbV hMMa
    go_wp2_with (first
      | (go_at_call 15; refine hfg.mono ?_; rintro e w1 ⟨rfl, x1, x2, x3, x4, x5, x6, x7, x8⟩)
      | fail)
    have hpos := hM.pos hid (show (fOf blk id).isSome = true by unfold fOf; rw [hbk]; rfl)
    have hVl : ∀ q o, V.heap[q]? = some o → q < V.heap.size := fun q o h => (Array.getElem?_eq_some_iff.1 h).1
    obtain ⟨_, _, hMm⟩ := hMV.map
    obtain ⟨_, _, hMam⟩ := hMaV.map
    have hk : ∀ q cs ty, V.heap[q]? = some (.cells cs ty (0, 0)) → q ≠ b → w1.heap[q]? = some (.cells cs ty (0, 0)) := fun q cs ty hq hqb => (x5 q (hVl q _ hq) (fun e => by rw [e, hMm] at hq; cases hq) (fun e => by rw [e, hchV] at hq; cases hq) (fun e => by rw [e, hMam] at hq; cases hq) hqb).trans hq
    have hTb : T ≠ b := fun e => by rw [e, hbV] at hTV; simp at hTV
    have hPb : P ≠ b := fun e => by rw [e, hbV] at hPV; simp at hPV
    have hB1 : Below w.heap.size w w1 := by
      have hsz := hBV.size
      refine ⟨x1.trans hBV.os, x2.trans hBV.tape, x3.trans hBV.output, by omega, fun q hq => ?_⟩
      exact (x5 q (by omega) (by omega) (by omega) (by omega) (by omega)).trans (hBV.block q hq)
    have hfe : delU (fOf blk) id = fOf (fun x => if x = id then none else blk x) := by
      funext x
      unfold fOf delU
      by_cases hx : x = id
      · simp [hx]
      · simp [hx]
    rw [hfe] at x6
    have hL1 : Late w1 b cnt id port ans true := by
      rcases x8 with ⟨r1, r2, N, a, cp, r3, r4, r5⟩ | ⟨r1, r2⟩
      · exact .inl ⟨rfl, r1, r2, N, a, cp, _, r3, r4, r5⟩
      · exact .inr ⟨.inr r1, r2.trans hbV⟩
    rw [← hQd]
    refine after_yes X hXt _ ?_ ?_ a0 (some ⟨S, 0, none⟩) n cap T P b c ch M Ma (sz - 1) cnt cnt s 1 z id port ans (fun x => if x = id then none else blk x) (toldC id port S cnt ans) (buf.extract 1 buf.size) w w1 ?_ ?_ ?_ ?_ ?_ ?_ ?_ ?_ ?_ h hn hid hc5 hB1 (hk T _ _ hTV hTb) (hk P _ _ hPV hPb) (hk c _ _ hcV (fun e => hbc e.symm)) t7 t8 x6 (by simp) x7 ((extract_size buf).trans (by rw [hbs])) (fun i hi hz => by simp only [hz, if_false]; exact hdom i hi) hL1
    all_goals first | rfl | skip
    show Value.int .i64 (sz : Int) = Value.int .i64 (((sz - 1 : Nat) : Int) + 1)
    congr 1
    omega
  · have hfg := forget_no T c ch M Ma b n sz id blk _ V hid hTV hcV t1 hMV hblV hbk
    go_wp2_with (first
      | (go_at_call 15; refine hfg.mono ?_; rintro e w1 ⟨rfl, x1⟩)
      | fail)
    have hVl : ∀ q o, V.heap[q]? = some o → w1.heap[q]? = some o := fun q o h => (x1.block q (Array.getElem?_eq_some_iff.1 h).1).trans h
    rw [← hQd]
    refine after_no X hXt _ ?_ ?_ a0 (some ⟨S, 0, none⟩) n cap T P b c ch M Ma sz cnt cnt s 0 z id port ans blk (toldC id port S cnt ans) buf w w1 ?_ ?_ ?_ ?_ ?_ ?_ ?_ ?_ ?_ h hn hid hc5 (hBV.trans (x1.mono hBV.size)) (hVl _ _ hTV) (hVl _ _ hPV) (hVl _ _ hcV) t7 t8 (hMV.of_block (x1.block M hMV.lt)) hbk (fun d hd => by obtain ⟨ca, h⟩ := hblV d hd; exact ⟨ca, hVl _ _ h⟩) (hVl _ _ hchV) hbs (fun i hi _ => hdom i hi) (.inr ⟨.inl rfl, hVl _ _ hbV⟩)
    all_goals rfl

end Go.Proofs.Ybulkcrtu
