import Derived.Test.YbulkcrtuM6
namespace Go.Proofs.Ybulkcrtu
open Go.RowKit Go.ChangeMaps Go.MapKept Go.MuLone

set_option maxRecDepth 100000 in
set_option maxHeartbeats 8000000 in
/-- All that follows the laying of the transport. -/
theorem rest_walk (co : Code) (hcd : IsTail 4 co) (A : Act) (hA : A.tmps.size = 303) (hAd : A.defers = []) (a0 : Option Addr) (n cap : Nat) (z : Nat → Int) (sel extra nn port : Int) (stranger ans : Bool) (w wr : World) (T ch M Ma b sz s : Nat) (blk : Int → Option Nat) (buf : Array Value)
    (e0 : A.eval (.tmp 0) = .slice a0 n cap) (e1 : A.eval (.tmp 1) = .int .u16 sel) (e2 : A.eval (.tmp 2) = .int .u32 extra) (e3 : A.eval (.tmp 3) = .bool stranger) (e4 : A.eval (.tmp 4) = .int .u8 nn) (e5 : A.eval (.tmp 5) = .bool ans) (e6 : A.eval (.tmp 6) = .int .u16 port) (e15 : A.eval (.tmp 15) = .pointer (some ⟨T, 0, none⟩))
    (h : UArg w a0 n z) (hn : n ≤ 1024) (hs0 : 0 ≤ sel) (hs1 : sel ≤ 65535) (hex : Id extra) (hnn0 : 0 ≤ nn) (hnn1 : nn ≤ 255) (hSt : St w wr T ch M Ma b n z sz blk buf s) :
    co.wp Yba.prog (bodyPost Yba.prog Yba.f4 (fun e w' => e = .returned (.bool true) ∧ Below w.heap.size w w')) A wr := by
  obtain ⟨bd, hbd, rfl⟩ := hcd
  simp only [Yba.f4, Option.some.injEq] at hbd
  subst hbd
  obtain ⟨g, hg, rfl⟩ := frame303 A hA hAd
  rw [hg] at e0 e1 e2 e3 e4 e5 e6 e15
  rw [← putTail_self 3 (dropC 4 _)]
  generalize hX : dropC 3 (dropC 4 _) = X
  have hXt : IsTail 7 X := ⟨_, rfl, hX⟩
  clear hX
  simp only [dropC, putTail, e0, e1, e2, e3, e4, e5, e6, e15]
  clear e0 e1 e2 e3 e4 e5 e6 e15 hg hA hAd
  generalize hQd : bodyPost Yba.prog Yba.f4 _ = Q
  have hB := hSt.1
  obtain ⟨k, hk⟩ : ∃ k : Nat, (k : Int) = sel % ((n : Int) + 1) := ⟨(sel % ((n : Int) + 1)).toNat, by have := Int.emod_nonneg sel (show ((n : Int) + 1) ≠ 0 by omega); omega⟩
  go_upto_if 81 with fail
  rw [← hk]
  clear hk
  by_cases hlt : k < n
  · have hlt' : (k : Int) < (n : Int) := by omega
    rcases h with h | ⟨bY, oY, rfl, h⟩
    · omega
    obtain ⟨y0, hIdk⟩ := h k hlt
    have x0 : wr.cell? ⟨bY, oY + k, none⟩ = some (.int .u32 (z k)) := (hB.cell (World.block_lt_of_cell? _ _ y0)).trans y0
    go_wp2
    rw [← hQd]
    refine sent_walk X hXt _ ?_ ?_ _ n cap T b ch M Ma sz s z (z k) port nn stranger ans blk buf w wr ?_ ?_ ?_ ?_ ?_ ?_ ?_ (.inr ⟨bY, oY, rfl, h⟩) hn hIdk hnn0 hnn1 hSt <;> rfl
  · have hlt' : ¬ (k : Int) < (n : Int) := by omega
    go_wp2
    rw [← hQd]
    refine sent_walk X hXt _ ?_ ?_ _ n cap T b ch M Ma sz s z extra port nn stranger ans blk buf w wr ?_ ?_ ?_ ?_ ?_ ?_ ?_ h hn hex hnn0 hnn1 hSt <;> rfl

end Go.Proofs.Ybulkcrtu
