import Derived.Test.YbulkcrycG
namespace Go.Proofs.Ybulkcryc
open Go.RowKit Go.ChangeMaps Go.MapKept

set_option maxHeartbeats 1000000 in
theorem seq_stop (b1 b2 T S stop P Bf base bs g n : Nat) (mo : Option Nat) (ks : Nat → Nat) (w0 w : World) (hPl : PlIs w0 P Bf base n mo ks) (h0 : Below w0.heap.size w0 w) (hbs : w0.heap.size ≤ bs) (hT0 : w0.heap.size ≤ T) (hbw : bs ≤ w.heap.size) (hg : g ≤ 4) (hn : n ≤ 1024)
    (h1 : w.heap[b1]? = some (.cells #[.pointer (some ⟨P, 0, none⟩)] 27 (0, 0))) (h2 : w.heap[b2]? = some (.cells (refC g).toArray 33 (0, 0))) (hT : Got w T bs []) (hS : w.heap[S]? = some (.cells #[.int .i64 (stop : Int)] 3 (0, 0))) (hS0 : S < w0.heap.size) (hst : 1 ≤ stop) :
    Calls Yba.prog 12 #[.func (.func 11) #[] #[.pointer (some ⟨T, 0, none⟩), .pointer (some ⟨S, 0, none⟩)], .pointer (some ⟨b1, 0, none⟩), .pointer (some ⟨b2, 0, none⟩)] w fun e w' => e = .returned (.tuple #[]) ∧ Got w' T bs ((ix ks g n).take stop) ∧ Keep T bs w w' := by
  obtain ⟨hP, hF, hM⟩ := hPl
  have hPw := (h0.block P (Array.getElem?_eq_some_iff.1 hP).1).trans hP
  have hFw := hF.of_block (h0.block Bf hF.lt)
  have cP0 := cell_of_row w P 0 _ _ _ hPw
  have c1 := cell_of_row w b1 0 _ _ _ h1
  have c20 := cell_of_row w b2 0 _ _ _ h2
  have c21 := cell_of_row w b2 1 _ _ _ h2
  have c22 := cell_of_row w b2 2 _ _ _ h2
  simp only [refC, List.getElem?_toArray, List.getElem?_cons_zero, List.getElem?_cons_succ] at c20 c21 c22
  cases hix : ix ks g n with
  | nil =>
    have hlk : ∀ m, (Instr.lookup 39 (.map (some Bf)) (.agg #[.string ⟨#[80, 111, 100]⟩, .string ⟨#[110, 115]⟩, .string (nm g)]) true).run Yba.prog (w.drewN m) = .ok (.tuple #[.int .i64 0, .bool false]) (w.drewN m) := fun m => by
      have := (hFw.of_block (w' := w.drewN m) rfl).look_ok Yba.underlying39 (zero3 _) (g := g) hg
      rw [show ff ks n g = none by unfold ff; rw [hix]; rfl] at this
      exact this
    clear hix
    go_enter Yba.func12, Yba.ntmps12
    go_upto_region 0 with fail
    go_quiet (fail)
    go_wp2
    refine bodyPost_ret (results_none rfl _ _ _) rfl ?_
    exact ⟨rfl, by rw [List.take_nil]; exact hT, (Keep.refl _ _ _).drewN _⟩
  | cons i0 r0 =>
    have hlk : ∀ m, (Instr.lookup 39 (.map (some Bf)) (.agg #[.string ⟨#[80, 111, 100]⟩, .string ⟨#[110, 115]⟩, .string (nm g)]) true).run Yba.prog (w.drewN m) = .ok (.tuple #[.int .i64 (i0 : Int), .bool true]) (w.drewN m) := fun m => by
      have := (hFw.of_block (w' := w.drewN m) rfl).look_ok Yba.underlying39 (zero3 _) (g := g) hg
      rw [show ff ks n g = some (.int .i64 (i0 : Int)) by unfold ff; rw [hix]; rfl] at this
      exact this
    have HIX : Hid (ix ks g n = i0 :: r0) := hix
    clear hix
    go_enter Yba.func12, Yba.ntmps12
    go_upto_region 0 with fail
    go_quiet (fail)
    have hy := yield_stop i0 T S bs stop [] (w.drewN nq) hT hS (by omega) (by omega) (by simp) hbw
    by_cases hs1 : stop = 1
    · subst hs1
      go_wp2_with (first
        | (go_at_call 11; refine hy.mono ?_; rintro e w1 ⟨rfl, hG1, hK1⟩)
        | fail)
      refine bodyPost_ret (results_none rfl _ _ _) rfl ?_
      exact ⟨rfl, by simpa using (by assumption : Got _ T bs ([] ++ [i0])), by assumption⟩
    rw [show decide (([] : List Nat).length + 1 < stop) = true by simp; omega] at hy
    go_wp2_with (first
      | (go_at_call 11; refine hy.mono ?_; rintro e w1 ⟨rfl, hG1, hK1'⟩; refine Hid.out ?_)
      | fail)
    unfold Hid
    clear hy
    have hK1 : Keep T bs w w1 := hK1'
    have hTb : ∃ v, w.heap[T]? = some (.cells #[v] 24 (0, 0)) := by obtain ⟨v, h, _⟩ := hT; exact ⟨v, h⟩
    obtain ⟨vT, hTv⟩ := hTb
    have h0k : ∀ u, Keep T bs w u → Below w0.heap.size w0 u := fun u hu => ⟨hu.1.trans h0.os, hu.2.1.trans h0.tape, hu.2.2.1.trans h0.output, Nat.le_trans h0.size hu.2.2.2.1, fun b hb => (hu.2.2.2.2 b (by have := h0.size; omega) (by omega) (.inl (by omega))).trans (h0.block b hb)⟩
    have h01 := h0k w1 hK1
    have h11 : w1.heap[b1]? = some (.cells #[.pointer (some ⟨P, 0, none⟩)] 27 (0, 0)) := (hK1.2.2.2.2 b1 (Array.getElem?_eq_some_iff.1 h1).1 (fun e => by rw [e, hTv] at h1; simp at h1) (.inr (fun c fr e => by rw [h1] at e; simp at e))).trans h1
    have h21 : w1.heap[b2]? = some (.cells (refC g).toArray 33 (0, 0)) := (hK1.2.2.2.2 b2 (Array.getElem?_eq_some_iff.1 h2).1 (fun e => by rw [e, hTv] at h2; simp at h2) (.inr (fun c fr e => by rw [h2] at e; simp at e))).trans h2
    have hP1 := (h01.block P (Array.getElem?_eq_some_iff.1 hP).1).trans hP
    have d0 := cell_of_row w1 P 1 _ _ _ hP1
    have d1 := cell_of_row w1 b1 0 _ _ _ h11
    have d20 := cell_of_row w1 b2 0 _ _ _ h21
    have d21 := cell_of_row w1 b2 1 _ _ _ h21
    have d22 := cell_of_row w1 b2 2 _ _ _ h21
    simp only [refC, List.getElem?_toArray, List.getElem?_cons_zero, List.getElem?_cons_succ] at d20 d21 d22
    obtain ⟨ar, cr, hlr, hrow⟩ := more_look hM h01 hg
    rw [HIX.out] at hlr hrow
    unfold refV at hlr
    simp only [List.tail_cons] at hlr hrow
    have hrl : r0.length ≤ 1024 := by have := ix_len ks g n; rw [HIX.out] at this; simp at this; omega
    clear hlk c1 c20 c21 c22 cP0 hK1' hPw hFw hT h1 h2
    go_upto_region 2 with fail
    go_quiet (fail)
    go_wp2_with fail
    clear hlr d0 d1 d20 d21 d22 h11 h21 hP1 h01
    go_loopw [32] (fun i wr => ∃ m : Nat, m ≤ r0.length ∧ m + 1 < stop ∧ i = .int .i64 m ∧ Got wr T bs (i0 :: r0.take m) ∧ Keep T bs w wr) (fun i _ => r0.length - (intOf i).toNat)
    case atStart => exact ⟨0, by omega, by omega, rfl, hG1, hK1⟩
    case round =>
      clear hG1 hK1
      obtain ⟨m, hm, hms, rfl, hG, hK⟩ := hrel
      by_cases hlt : m < r0.length
      · rcases hrow with hrow | ⟨br, rfl, hbr, hrow⟩
        · simp [hrow] at hlt
        have y0 := hrow m hlt
        have hbr' := h0k wr hK
        obtain ⟨x, hx⟩ : ∃ x, x = r0.getD m 0 := ⟨_, rfl⟩
        rw [← hx] at y0
        have HX : Hid (x = r0.getD m 0) := hx
        clear hx
        have x0 : wr.cell? ⟨br, m, none⟩ = some (.int .i64 (x : Int)) := (hbr'.cell (p := ⟨br, m, none⟩) hbr).trans y0
        clear y0 hbr'
        have hlt' : (m : Int) < (r0.length : Int) := by omega
        have hgl : (i0 :: r0.take m).length ≤ 100000 := by simp; omega
        have hbr2 : bs ≤ wr.heap.size := Nat.le_trans hbw hK.2.2.2.1
        have hSr : wr.heap[S]? = some (.cells #[.int .i64 (stop : Int)] 3 (0, 0)) := (hK.2.2.2.2 S (Array.getElem?_eq_some_iff.1 hS).1 (by omega) (.inl (by omega))).trans hS
        have hy := yield_stop x T S bs stop _ wr hG hSr (by omega) (by omega) hgl hbr2
        have hlen : (i0 :: r0.take m).length = m + 1 := by simp; omega
        rw [hlen] at hy
        by_cases hs2 : m + 1 + 1 < stop
        · rw [show decide (m + 1 + 1 < stop) = true by simpa using hs2] at hy
          go_wp2_with (first
            | (go_at_call 11; refine hy.mono ?_; rintro e w2 ⟨rfl, hG2, hK2⟩)
            | fail)
          go_roundw
          case rel =>
            refine ⟨m + 1, by omega, by omega, by go_num, ?_, hK.trans (by assumption)⟩
            rw [take_one r0 m 0 hlt, ← HX.out]
            simpa using (by assumption : Got _ T bs ((i0 :: r0.take m) ++ [x]))
          case measure => simp [intOf]; omega
        · rw [show decide (m + 1 + 1 < stop) = false by simpa using hs2] at hy
          have hst' : stop = m + 1 + 1 := by omega
          have htk : (i0 :: r0).take stop = (i0 :: r0.take m) ++ [x] := by
            rw [hst', List.take_succ_cons, take_one r0 m 0 hlt, ← HX.out]
            rfl
          have HTK : Hid ((i0 :: r0).take stop = (i0 :: r0.take m) ++ [x]) := htk
          clear hst' htk
          go_wp2_with (first
            | (go_at_call 11; refine hy.mono ?_; rintro e w2 ⟨rfl, hG2, hK2⟩)
            | fail)
          refine bodyPost_ret (results_none rfl _ _ _) rfl ?_
          refine ⟨rfl, ?_, hK.trans (by assumption)⟩
          rw [HTK.out]
          assumption
      · have hm' : m = r0.length := by omega
        subst hm'
        rw [List.take_length] at hG
        have hlt' : ¬ (r0.length : Int) < (r0.length : Int) := by omega
        have htk : (i0 :: r0).take stop = i0 :: r0 := List.take_of_length_le (by simp; omega)
        have HTK : Hid ((i0 :: r0).take stop = i0 :: r0) := htk
        clear htk
        go_wp2
        go_end0
        exact ⟨rfl, by rw [HTK.out]; exact hG, hK⟩

end Go.Proofs.Ybulkcryc
