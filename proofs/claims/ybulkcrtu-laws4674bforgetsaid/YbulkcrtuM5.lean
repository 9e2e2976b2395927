import Derived.Test.YbulkcrtuM4
namespace Go.Proofs.Ybulkcrtu
open Go.RowKit Go.ChangeMaps Go.MapKept Go.MuLone

set_option maxRecDepth 100000 in
set_option maxHeartbeats 8000000 in
/-- The call is chosen, told and forgotten. -/
theorem mid_walk (co : Code) (hcd : IsTail 11 co) (A : Act) (hA : A.tmps.size = 303) (hAd : A.defers = []) (a0 : Option Addr) (n cap T P b S ch M Ma sz cnt s : Nat) (z : Nat → Int) (id port : Int) (stranger ans : Bool) (blk : Int → Option Nat) (buf : Array Value) (w W : World)
    (e0 : A.eval (.tmp 0) = .slice a0 n cap) (e3 : A.eval (.tmp 3) = .bool stranger) (e5 : A.eval (.tmp 5) = .bool ans) (e15 : A.eval (.tmp 15) = .pointer (some ⟨T, 0, none⟩)) (e19 : A.eval (.tmp 19) = .int .u32 id) (e20 : A.eval (.tmp 20) = .pointer (some ⟨P, 0, none⟩)) (e21 : A.eval (.tmp 21) = .int .i64 (cnt : Int)) (e22 : A.eval (.tmp 22) = .slice (some ⟨S, 0, none⟩) cnt cnt)
    (h : UArg w a0 n z) (hn : n ≤ 1024) (hid : Id id) (hc5 : cnt ≤ 5) (hB : Below w.heap.size w W) (hch0 : w.heap.size ≤ ch) (hM0 : w.heap.size ≤ M) (hMa0 : w.heap.size ≤ Ma) (hb0 : w.heap.size ≤ b) (hMMa : M ≠ Ma) (hT : W.heap[T]? = some (.cells (trC 0 ch M Ma b) 96 (0, 0))) (hP : W.heap[P]? = some (.cells #[.int .u64 0, .int .u64 0, .pointer none, .int .u16 port] 37 (0, 0))) (hS : W.heap[S]? = some (.cells (tcells cnt).toArray 118 (0, 0)))
    (hch : W.heap[ch]? = some (.chan 1024 buf false s 0 false)) (hbs : buf.size = sz) (hM : MapU W M n sz (fOf blk)) (hMa : MapU W Ma 0 0 (fun _ => none)) (hb : W.heap[b]? = some (.cells (emptyL b) 151 (0, 0))) (hdom : ∀ i, i < n → (blk (z i)).isSome = true) (hcalls : ∀ x d, blk x = some d → W.heap[d]? = some (.cells (callC x) 114 (0, 0)) ∧ w.heap.size ≤ d) :
    co.wp Yba.prog (bodyPost Yba.prog Yba.f4 (fun e w' => e = .returned (.bool true) ∧ Below w.heap.size w w')) A W := by
  obtain ⟨bd, hbd, rfl⟩ := hcd
  simp only [Yba.f4, Option.some.injEq] at hbd
  subst hbd
  obtain ⟨g, hg, rfl⟩ := frame303 A hA hAd
  rw [hg] at e0 e3 e5 e15 e19 e20 e21 e22
  rw [← putTail_self 3 (dropC 11 _)]
  generalize hX : dropC 3 (dropC 11 _) = X
  have hXt : IsTail 14 X := ⟨_, rfl, hX⟩
  clear hX
  simp only [dropC, putTail, e0, e3, e5, e15, e19, e20, e21, e22]
  clear e0 e3 e5 e15 e19 e20 e21 e22 hg hA hAd
  generalize hQd : bodyPost Yba.prog Yba.f4 _ = Q
  have k16 : W.cell? ⟨T, 16, none⟩ = some (.map (some M)) := cell_of_row W T 16 _ _ _ hT
  have hlook := hM.look Yba.underlying72 (zero97 W) hid
  rw [fOf_getD] at hlook
  have hnew : ∀ o, W.heap[W.heap.size]? = some o → False := fun o ho => by have := (Array.getElem?_eq_some_iff.1 ho).1; omega
  have hsz := hB.size
  have hBn : Below W.heap.size W (W.alloc (.cells (callC id) 114)) := below_alloc _ _
  have hcn : (W.alloc (.cells (callC id) 114)).heap[W.heap.size]? = some (.cells (callC id) 114 (0, 0)) := heap1a _ _
  have hold : ∀ q o, W.heap[q]? = some o → (W.alloc (.cells (callC id) 114)).heap[q]? = some o := fun q o h => (hBn.block q (Array.getElem?_eq_some_iff.1 h).1).trans h
  cases hbk : blk id with
  | none =>
    rw [hbk] at hlook
    simp only [ptr, Option.map_none] at hlook
    cases stranger
    all_goals
      go_wp2
      rw [← hQd, ← callC_big]
      refine forget_mid X hXt _ ?_ ?_ a0 n cap T P b W.heap.size S ch M Ma sz cnt s z id port ans blk buf w _ ?_ ?_ ?_ ?_ ?_ ?_ ?_ ?_ ?_ h hn hid hc5 (hB.trans (hBn.mono hsz)) hch0 hM0 hMa0 hb0 hsz hMMa (hold _ _ hT) (hold _ _ hP) (hold _ _ hS) (hold _ _ hch) hbs (hM.of_block (hBn.block M hM.lt)) (hMa.of_block (hBn.block Ma hMa.lt)) (hold _ _ hb) hdom hcn (fun d hd => by rw [hbk] at hd; cases hd)
      all_goals first | rfl | (rw [hbk]; rfl)
  | some d =>
    rw [hbk] at hlook
    simp only [ptr, Option.map_some] at hlook
    obtain ⟨hd1, hd2⟩ := hcalls id d hbk
    cases stranger with
    | false =>
      go_wp2
      rw [← hQd]
      refine forget_mid X hXt _ ?_ ?_ a0 n cap T P b d S ch M Ma sz cnt s z id port ans blk buf w W ?_ ?_ ?_ ?_ ?_ ?_ ?_ ?_ ?_ h hn hid hc5 hB hch0 hM0 hMa0 hb0 hd2 hMMa hT hP hS hch hbs hM hMa hb hdom hd1 (fun d' hd' => ⟨_, (hcalls id d' hd').1⟩)
      all_goals first | rfl | (rw [hbk]; rfl)
    | true =>
      go_wp2
      rw [← hQd, ← callC_big]
      refine forget_mid X hXt _ ?_ ?_ a0 n cap T P b W.heap.size S ch M Ma sz cnt s z id port ans blk buf w _ ?_ ?_ ?_ ?_ ?_ ?_ ?_ ?_ ?_ h hn hid hc5 (hB.trans (hBn.mono hsz)) hch0 hM0 hMa0 hb0 hsz hMMa (hold _ _ hT) (hold _ _ hP) (hold _ _ hS) (hold _ _ hch) hbs (hM.of_block (hBn.block M hM.lt)) (hMa.of_block (hBn.block Ma hMa.lt)) (hold _ _ hb) hdom hcn (fun d' hd' => ⟨_, hold _ _ (hcalls id d' hd').1⟩)
      all_goals first | rfl | (rw [hbk]; rfl)

end Go.Proofs.Ybulkcrtu
