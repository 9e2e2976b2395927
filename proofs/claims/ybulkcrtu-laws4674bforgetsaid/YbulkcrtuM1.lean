import Derived.Test.YbulkcrtuM0
import Derived.Deep.DeepCutAuto
import Derived.Deep.CutBlock
namespace Go.Proofs.Ybulkcrtu
open Go.RowKit Go.ChangeMaps Go.MapKept Go.MuLone

theorem tcells_at : ∀ n k, k < n → (tcells n)[k * 3]? = some (.int .u64 ((k + 1 : Nat) : Int)) ∧ (tcells n)[k * 3 + 1]? = some (.int .i64 0) ∧ (tcells n)[k * 3 + 2]? = some (.pointer none)
  | 0, k, h => absurd h (by omega)
  | n + 1, k, h => by
    show (tcells n ++ _)[_]? = _ ∧ (tcells n ++ _)[_]? = _ ∧ (tcells n ++ _)[_]? = _
    have hl := tcells_len n
    by_cases hk : k < n
    · have := tcells_at n k hk
      rw [List.getElem?_append_left (by omega), List.getElem?_append_left (by omega), List.getElem?_append_left (by omega)]
      exact this
    · have hk' : k = n := by omega
      subst hk'
      rw [List.getElem?_append_right (by omega), List.getElem?_append_right (by omega), List.getElem?_append_right (by omega), hl, Nat.sub_self, Nat.add_sub_cancel_left, Nat.add_sub_cancel_left]
      exact ⟨rfl, rfl, rfl⟩
theorem neq37 (port : Int) (w : World) : (binOp .neq 37 (.agg #[.int .u64 0, .int .u64 0, .pointer none, .int .u16 port]) (.agg #[.int .u64 0, .int .u64 0, .pointer none, .int .u16 port])).run Yba.prog w = .ok (.bool false) w := by
  have h1 : (Op.equalIn 9999 35 (.agg #[.int .u64 0, .int .u64 0, .pointer none]) (.agg #[.int .u64 0, .int .u64 0, .pointer none])).run Yba.prog w = .ok true w := by kernel_rfl
  have h2 : (Op.equalIn 9999 24 (.int .u16 port) (.int .u16 port)).run Yba.prog w = .ok true w := by rw [run_equalIn_int w 9998 24 .u16 .u16 port port Yba.underlying24]; simp
  have p1 : (part 35 #[.int .u64 0, .int .u64 0, .pointer none, .int .u16 port] 0).run Yba.prog w = .ok (.agg #[.int .u64 0, .int .u64 0, .pointer none]) w := by kernel_rfl
  have p2 : (part 24 #[.int .u64 0, .int .u64 0, .pointer none, .int .u16 port] 3).run Yba.prog w = .ok (.int .u16 port) w := by kernel_rfl
  have hf : (Yba.prog.fieldsOf 37).toList.map (fun f => (decide (f.name = "_"), f.type, f.offset)) = [(false, 35, 0), (false, 24, 3)] := by kernel_rfl
  rw [run_neq_struct, run_equalIn_agg w 9999 37 _ _ (by kernel_rfl) (by kernel_rfl)]
  generalize (Yba.prog.fieldsOf 37).toList = fs at hf
  cases fs with
  | nil => simp at hf
  | cons f1 fs =>
    cases fs with
    | nil => simp at hf
    | cons f2 fs =>
      cases fs with
      | cons f3 fs => simp at hf
      | nil =>
        simp at hf
        obtain ⟨⟨n1, t1, o1⟩, n2, t2, o2⟩ := hf
        simp [Op.eqFields, n1, n2, t1, t2, o1, o2, p1, p2, h1, h2]

set_option maxRecDepth 100000 in
set_option maxHeartbeats 8000000 in
theorem give_walk (co : Code) (hcd : IsTail 25 co) (A : Act) (hA : A.tmps.size = 303) (hAd : A.defers = []) (T P b N cnt cap base : Nat) (a : Option Addr) (id port : Int) (w W : World)
    (e15 : A.eval (.tmp 15) = .pointer (some ⟨T, 0, none⟩)) (e19 : A.eval (.tmp 19) = .int .u32 id) (e20 : A.eval (.tmp 20) = .pointer (some ⟨P, 0, none⟩)) (e21 : A.eval (.tmp 21) = .int .i64 (cnt : Int))
    (hc0 : 0 < cnt) (hc5 : cnt ≤ 5) (hB : Below w.heap.size w W) (hT : W.cell? ⟨T, 19, none⟩ = some (.pointer (some ⟨b, 0, none⟩))) (hP : W.heap[P]? = some (.cells #[.int .u64 0, .int .u64 0, .pointer none, .int .u16 port] 37 (0, 0)))
    (hb : W.heap[b]? = some (.cells (oneL N) 151 (0, 0))) (hN : W.heap[N]? = some (.cells (elemL b (.iface 143 (.agg (remC id 0 0 none port a cnt cap)))) 145 (0, 0))) (hrow : W.ownsRow base 118 3 (.slice a cnt cap) cnt (tcells cnt)) :
    co.wp Yba.prog (bodyPost Yba.prog Yba.f4 (fun e w' => e = .returned (.bool true) ∧ Below w.heap.size w w')) A W := by
  obtain ⟨bd, hbd, rfl⟩ := hcd
  simp only [Yba.f4, Option.some.injEq] at hbd
  subst hbd
  obtain ⟨g, hg, rfl⟩ := frame303 A hA hAd
  rw [hg] at e15 e19 e20 e21
  simp only [dropC, e15, e19, e20, e21]
  clear e15 e19 e20 e21 hg hA hAd
  obtain ⟨hlen, hrow⟩ := hrow
  obtain ⟨B, cap', cur, hv, hBb, hcur, hcap, hmx, hcs, htk⟩ := hrow.resolve_left (fun h => by omega)
  obtain ⟨rfl, rfl⟩ : a = some ⟨B, 0, none⟩ ∧ cap = cap' := by
    injection hv with h1 h2 h3
    exact ⟨h1, h3⟩
  have hrd : ∀ j, j < cnt * 3 → cur[j]? = (tcells cnt)[j]? := fun j hj => by
    rw [← htk, List.getElem?_take_of_lt hj, Array.getElem?_toList]
  have hml := map_len T 17 b 1 W hT (cell_of_row W b 4 _ _ _ hb)
  have hol := map_oldest T 17 b N id 0 0 none port (some ⟨B, 0, none⟩) cnt cap W hT hb hN
  simp only [gvC] at hol
  have hPl := (Array.getElem?_eq_some_iff.1 hP).1
  have q0 : W.cell? ⟨P, 0, none⟩ = some (.int .u64 0) := cell_of_row W P 0 _ _ _ hP
  have q1 : W.cell? ⟨P, 1, none⟩ = some (.int .u64 0) := cell_of_row W P 1 _ _ _ hP
  have q2 : W.cell? ⟨P, 2, none⟩ = some (.pointer none) := cell_of_row W P 2 _ _ _ hP
  have q3 : W.cell? ⟨P, 3, none⟩ = some (.int .u16 port) := cell_of_row W P 3 _ _ _ hP
  have hne := neq37 port
  generalize hQd : bodyPost Yba.prog Yba.f4 _ = Q
  go_upto_region 52 with (first
    | (go_at_call 16; refine hml.mono ?_; rintro e w1 ⟨rfl, rfl⟩)
    | (go_at_call 17; refine hol.mono ?_; rintro e w2 ⟨rfl, hB2⟩)
    | fail)
  obtain ⟨G, hGd⟩ : ∃ G, G = w2.heap.size := ⟨_, rfl⟩
  rw [← hGd]
  obtain ⟨W5, hW5d⟩ : ∃ W5, W5 = w2.alloc (.cells #[.int .u64 0, .int .u64 0, .pointer none, .int .u16 port, .slice (some ⟨B, 0, none⟩) cnt cap] 80) := ⟨_, rfl⟩
  rw [← hW5d]
  have hB5 : Below w1.heap.size w1 W5 := by rw [hW5d]; exact below_al0 hB2
  have hG5 : W5.heap[G]? = some (.cells #[.int .u64 0, .int .u64 0, .pointer none, .int .u16 port, .slice (some ⟨B, 0, none⟩) cnt cap] 80 (0, 0)) := by rw [hW5d, hGd]; exact heap1a _ _
  clear hW5d hGd hB2 hml hol hN hb hT hrow
  have p0 := (hB5.cell hPl).trans q0
  have p1 := (hB5.cell hPl).trans q1
  have p2 := (hB5.cell hPl).trans q2
  have p3 := (hB5.cell hPl).trans q3
  have g0 : W5.cell? ⟨G, 0, none⟩ = some (.int .u64 0) := cell_of_row W5 G 0 _ _ _ hG5
  have g1 : W5.cell? ⟨G, 1, none⟩ = some (.int .u64 0) := cell_of_row W5 G 1 _ _ _ hG5
  have g2 : W5.cell? ⟨G, 2, none⟩ = some (.pointer none) := cell_of_row W5 G 2 _ _ _ hG5
  have g3 : W5.cell? ⟨G, 3, none⟩ = some (.int .u16 port) := cell_of_row W5 G 3 _ _ _ hG5
  have g4 : W5.cell? ⟨G, 4, none⟩ = some (.slice (some ⟨B, 0, none⟩) cnt cap) := cell_of_row W5 G 4 _ _ _ hG5
  clear q0 q1 q2 q3
  go_wp2_with fail
  go_loopw [34] (fun i wr => ∃ k : Nat, k ≤ cnt ∧ i = .int .i64 k ∧ Below W5.heap.size W5 wr) (fun i _ => cnt - (intOf i).toNat)
  case atStart => exact ⟨0, by omega, rfl, Below.refl _ _⟩
  case round =>
    obtain ⟨k, hk, rfl, hbr⟩ := hrel
    by_cases hlt : k < cnt
    · have hlt' : (k : Int) < (cnt : Int) := by omega
      have hsr := hbr.size
      have hs5 := hB5.size
      have hGr : G < wr.heap.size := by have := (Array.getElem?_eq_some_iff.1 hG5).1; omega
      have hBl := (Array.getElem?_eq_some_iff.1 hcur).1
      have hBr : B < wr.heap.size := by omega
      have r4 : wr.cell? ⟨G, 4, none⟩ = some (.slice (some ⟨B, 0, none⟩) cnt cap) := (hbr.cell (Array.getElem?_eq_some_iff.1 hG5).1).trans g4
      have hcr : wr.heap[B]? = some (.cells cur 118 (0, 0)) := (hbr.block B (by omega)).trans ((hB5.block B hBl).trans hcur)
      obtain ⟨t0, t1, t2⟩ := tcells_at cnt k hlt
      have c0 : wr.cell? ⟨B, k * 3, none⟩ = some (.int .u64 ((k : Int) + 1)) := by rw [cell_of_row wr B (k * 3) _ _ _ hcr, hrd _ (by omega), t0]; rfl
      have c1 : wr.cell? ⟨B, k * 3 + 1, none⟩ = some (.int .i64 0) := by rw [cell_of_row wr B (k * 3 + 1) _ _ _ hcr, hrd _ (by omega), t1]
      have c2 : wr.cell? ⟨B, k * 3 + 2, none⟩ = some (.pointer none) := by rw [cell_of_row wr B (k * 3 + 2) _ _ _ hcr, hrd _ (by omega), t2]
      have hwr : IntKind.i64.wrap ((k : Int) + 1) = (k : Int) + 1 := by rw [IntKind.wrap_i64]; omega
      have hadd : ∀ u, Calls Yba.prog 14 #[.agg #[.int .u64 0, .int .i64 0, .pointer none], .int .i64 ((k : Int) + 1)] u fun e w' => e = .returned (.agg #[.int .u64 ((k : Int) + 1), .int .i64 0, .pointer none]) ∧ Below u.heap.size u w' := add_any (k + 1) (by omega) (by omega)
      have heq : ∀ u, Calls Yba.prog 18 #[.agg #[.int .u64 ((k : Int) + 1), .int .i64 0, .pointer none], .agg #[.int .u64 ((k : Int) + 1), .int .i64 0, .pointer none]] u fun e w' => e = .returned (.bool true) ∧ Below u.heap.size u w' := eq_any (k + 1) (by omega)
      go_upto_region 57 with fail
      go_region_held3 (fun u => u.cell? ⟨G, 4, none⟩ = some (.slice (some ⟨B, 0, none⟩) cnt cap) ∧ u.cell? ⟨B, k * 3, none⟩ = some (.int .u64 ((k : Int) + 1)) ∧ u.cell? ⟨B, k * 3 + 1, none⟩ = some (.int .i64 0) ∧ u.cell? ⟨B, k * 3 + 2, none⟩ = some (.pointer none))
        (first
          | exact hS7
          | exact hS6
          | exact ⟨r4, c0, c1, c2⟩)
        ((first
          | (go_at_call 14; refine (hadd _).mono ?_; rintro e w6 ⟨rfl, hB6'⟩; have hB6 : Below wr.heap.size wr w6 := ⟨hB6'.os, hB6'.tape, hB6'.output, hB6'.size, hB6'.block⟩; have hS6 := And.intro ((hB6.cell hGr).trans r4) (And.intro ((hB6.cell hBr).trans c0) (And.intro ((hB6.cell hBr).trans c1) ((hB6.cell hBr).trans c2))))
          | (go_at_call 18; refine (heq _).mono ?_; rintro e w7 ⟨rfl, hB7'⟩; have hB7 : Below w6.heap.size w6 w7 := ⟨hB7'.os, hB7'.tape, hB7'.output, hB7'.size, hB7'.block⟩; have hB67 := hB6.trans (hB7.mono hB6.size); have hS7 := And.intro ((hB67.cell hGr).trans r4) (And.intro ((hB67.cell hBr).trans c0) (And.intro ((hB67.cell hBr).trans c1) ((hB67.cell hBr).trans c2))))
          | fail))
      go_wp2
      exact ⟨⟨k + 1, by omega, by go_num, hbr.trans (hB67.mono hbr.size)⟩, by simp [intOf]; omega⟩
    · have hk' : k = cnt := by omega
      subst hk'
      have hlt' : ¬ (k : Int) < (k : Int) := by omega
      go_wp2
      rw [← hQd]
      go_ret
      exact ⟨rfl, hB.trans ((hB5.trans (hbr.mono hB5.size)).mono hB.size)⟩

end Go.Proofs.Ybulkcrtu
