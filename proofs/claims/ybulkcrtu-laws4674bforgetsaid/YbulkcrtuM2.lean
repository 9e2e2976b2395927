import Derived.Test.YbulkcrtuM1
namespace Go.Proofs.Ybulkcrtu
open Go.RowKit Go.ChangeMaps Go.MapKept Go.MuLone

/-- The list at the end. -/
def Late (W : World) (b cnt : Nat) (id port : Int) (ans removed : Bool) : Prop :=
  (removed = true ∧ ans = false ∧ 0 < cnt ∧ ∃ N a cap base, W.heap[N]? = some (.cells (elemL b (.iface 143 (.agg (remC id 0 0 none port a cnt cap)))) 145 (0, 0)) ∧ W.heap[b]? = some (.cells (oneL N) 151 (0, 0)) ∧ W.ownsRow base 118 3 (.slice a cnt cap) cnt (tcells cnt)) ∨
  ((removed = false ∨ ans = true ∨ cnt = 0) ∧ W.heap[b]? = some (.cells (emptyL b) 151 (0, 0)))

set_option maxRecDepth 100000 in
set_option maxHeartbeats 8000000 in
theorem late_walk (co : Code) (hcd : IsTail 21 co) (A : Act) (hA : A.tmps.size = 303) (hAd : A.defers = []) (a0 aS : Option Addr) (n cap T P b c ch M Ma sz cnt cS : Nat) (z : Nat → Int) (id port : Int) (ans removed : Bool) (blk : Int → Option Nat) (cs : Array Value) (w W : World)
    (e0 : A.eval (.tmp 0) = .slice a0 n cap) (e5 : A.eval (.tmp 5) = .bool ans) (e15 : A.eval (.tmp 15) = .pointer (some ⟨T, 0, none⟩)) (e19 : A.eval (.tmp 19) = .int .u32 id) (e20 : A.eval (.tmp 20) = .pointer (some ⟨P, 0, none⟩)) (e21 : A.eval (.tmp 21) = .int .i64 (cnt : Int)) (e25 : A.eval (.tmp 25) = .pointer (some ⟨c, 0, none⟩)) (e27 : A.eval (.tmp 27) = .bool removed)
    (h : UArg w a0 n z) (hn : n ≤ 1024) (hc5 : cnt ≤ 5) (hB : Below w.heap.size w W) (hT : W.heap[T]? = some (.cells (trC 0 ch M Ma b) 96 (0, 0))) (hP : W.heap[P]? = some (.cells #[.int .u64 0, .int .u64 0, .pointer none, .int .u16 port] 37 (0, 0)))
    (hc : W.heap[c]? = some (.cells cs 114 (0, 0))) (h271 : cs[271]? = some (.slice aS cnt cS)) (h272 : cs[272]? = some (.bool ans)) (hM : MapU W M n sz (fOf blk)) (hdom : ∀ i, i < n → z i ≠ id → (blk (z i)).isSome = true) (hL : Late W b cnt id port ans removed) :
    co.wp Yba.prog (bodyPost Yba.prog Yba.f4 (fun e w' => e = .returned (.bool true) ∧ Below w.heap.size w w')) A W := by
  obtain ⟨bd, hbd, rfl⟩ := hcd
  simp only [Yba.f4, Option.some.injEq] at hbd
  subst hbd
  obtain ⟨g, hg, rfl⟩ := frame303 A hA hAd
  rw [hg] at e0 e5 e15 e19 e20 e21 e25 e27
  rw [← putTail_self 4 (dropC 21 _)]
  generalize hX : dropC 4 (dropC 21 _) = X
  have hXt : IsTail 25 X := ⟨_, rfl, hX⟩
  clear hX
  simp only [dropC, putTail, e0, e5, e15, e19, e20, e21, e25, e27]
  clear e0 e5 e15 e19 e20 e21 e25 e27 hg hA hAd
  generalize hQd : bodyPost Yba.prog Yba.f4 _ = Q
  have k16 : W.cell? ⟨T, 16, none⟩ = some (.map (some M)) := cell_of_row W T 16 _ _ _ hT
  have k19 : W.cell? ⟨T, 19, none⟩ = some (.pointer (some ⟨b, 0, none⟩)) := cell_of_row W T 19 _ _ _ hT
  have c271 : W.cell? ⟨c, 271, none⟩ = some (.slice aS cnt cS) := (cell_of_row W c 271 _ _ _ hc).trans h271
  have c272 : W.cell? ⟨c, 272, none⟩ = some (.bool ans) := (cell_of_row W c 272 _ _ _ hc).trans h272
  go_wp2_with fail
  go_loopw [206] (fun i wr => ∃ k : Nat, k ≤ n ∧ i = .int .i64 k ∧ wr = W) (fun i _ => n - (intOf i).toNat)
  case atStart => exact ⟨0, by omega, rfl, rfl⟩
  case round =>
    obtain ⟨k, hk, rfl, rfl⟩ := hrel
    by_cases hlt : k < n
    · have hlt' : (k : Int) < (n : Int) := by omega
      rcases h with h | ⟨bY, oY, rfl, h⟩
      · omega
      obtain ⟨y0, hIdk⟩ := h k hlt
      have x0 : wr.cell? ⟨bY, oY + k, none⟩ = some (.int .u32 (z k)) := (hB.cell (World.block_lt_of_cell? _ _ y0)).trans y0
      have hlook := hM.look Yba.underlying72 (zero97 wr) hIdk
      rw [fOf_getD] at hlook
      by_cases hz : z k = id
      · subst hz
        go_wp2
        exact ⟨⟨k + 1, by omega, by go_num, trivial⟩, by simp [intOf]; omega⟩
      · obtain ⟨d, hd⟩ := Option.isSome_iff_exists.1 (hdom k hlt hz)
        rw [hd] at hlook
        simp only [ptr, Option.map_some] at hlook
        go_wp2
        exact ⟨⟨k + 1, by omega, by go_num, trivial⟩, by simp [intOf]; omega⟩
    · have hk' : k = n := by omega
      subst hk'
      have hlt' : ¬ (k : Int) < (k : Int) := by omega
      rcases hL with ⟨rfl, rfl, hc0, N, aN, capN, base, hN, hb, hrow⟩ | ⟨hno, hb⟩
      · have hc0' : (0 : Int) < (cnt : Int) := by omega
        go_wp2
        rw [← hQd]
        refine give_walk X hXt _ ?_ ?_ T P b N cnt capN base aN id port w wr ?_ ?_ ?_ ?_ hc0 hc5 hB k19 hP hb hN hrow <;> rfl
      · have hml := map_len T 17 b 0 wr k19 (cell_of_row wr b 4 _ _ _ hb)
        cases removed with
        | false =>
          cases ans
          all_goals
            go_wp2_with (first
              | (go_at_call 16; refine hml.mono ?_; rintro e w1 ⟨rfl, rfl⟩)
              | fail)
            rw [← hQd]
            go_ret
            exact ⟨rfl, hB⟩
        | true =>
          by_cases hc0 : cnt = 0
          · subst hc0
            cases ans
            all_goals
              go_wp2_with (first
                | (go_at_call 16; refine hml.mono ?_; rintro e w1 ⟨rfl, rfl⟩)
                | fail)
              rw [← hQd]
              go_ret
              exact ⟨rfl, hB⟩
          · have hans : ans = true := by
              rcases hno with h1 | h1 | h1
              · cases h1
              · exact h1
              · exact absurd h1 hc0
            subst hans
            have hc0' : (0 : Int) < (cnt : Int) := by omega
            go_wp2_with (first
              | (go_at_call 16; refine hml.mono ?_; rintro e w1 ⟨rfl, rfl⟩)
              | fail)
            rw [← hQd]
            go_ret
            exact ⟨rfl, hB⟩

end Go.Proofs.Ybulkcrtu
