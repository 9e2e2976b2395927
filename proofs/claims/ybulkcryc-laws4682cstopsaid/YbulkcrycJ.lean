import Derived.Test.YbulkcrycI
namespace Go.Proofs.Ybulkcryc
open Go.RowKit Go.ChangeMaps Go.MapKept

theorem OInts.cap {w : World} {base : Nat} {a : Option Addr} {n c : Nat} {L : List Nat} (h : OInts w base (.slice a n c) L) : n = L.length ∧ L.length ≤ c ∧ (L = [] ∨ ∃ b, a = some ⟨b, 0, none⟩ ∧ ∀ i, i < L.length → w.cell? ⟨b, i, none⟩ = some (.int .i64 ((L.getD i 0 : Nat) : Int))) := by
  rcases h.2 with ⟨e, hn⟩ | ⟨g, cap, cur, e, _, _, hnc, _⟩
  · simp only [Value.slice.injEq] at e
    exact ⟨by omega, by omega, .inl (List.eq_nil_of_length_eq_zero hn)⟩
  · simp only [Value.slice.injEq] at e
    obtain ⟨e1, e2, e3⟩ := e
    subst e1 e2 e3
    refine ⟨rfl, hnc, .inr ⟨g, rfl, fun i hi => ?_⟩⟩
    rw [World.ownsRow.cellAt h i (by omega), List.getElem?_map, List.getElem?_eq_getElem hi, List.getD_eq_getElem?_getD, List.getElem?_eq_getElem hi]
    rfl

theorem KArg.below {w w' : World} {a : Option Addr} {n : Nat} {z : Nat → Int} (h : KArg w a n z) (hb : Below w.heap.size w w') : KArg w' a n z := by
  rcases h with h | ⟨b, off, rfl, h⟩
  · exact .inl h
  · exact .inr ⟨b, off, rfl, fun i hi => ⟨(hb.cell (World.block_lt_of_cell? _ _ (h i hi).1)).trans (h i hi).1, (h i hi).2⟩⟩

set_option maxHeartbeats 1000000 in
theorem stop_walk (a0 : Option Addr) (n cap0 : Nat) (z : Nat → Int) (a1 a2 : Int) (w : World) (h : KArg w a0 n z) (hn0 : n ≤ 9223372036854775807) (hq0 : 0 ≤ a1) (hq1 : a1 ≤ 255) (hs0 : 0 ≤ a2) (hs1 : a2 ≤ 255) :
    Calls Yba.prog 4 #[.slice a0 n cap0, .int .u8 a1, .int .u8 a2] w fun e w' => e = .returned (.bool true) ∧ Below w.heap.size w w' := by
  by_cases hbig : 1024 < n
  · go_enter Yba.func4, Yba.ntmps4
    go_wp2
    go_ret
    exact ⟨rfl, Below.refl _ _⟩
  have hn : n ≤ 1024 := by omega
  have hd0 : decide (1024 < (n : Int)) = false := by simp; omega
  obtain ⟨q, hq⟩ : ∃ q : Nat, (q : Int) = a1 % 5 := ⟨(a1 % 5).toNat, Int.toNat_of_nonneg (Int.emod_nonneg _ (by omega))⟩
  have hq4 : q ≤ 4 := by have := Int.emod_lt_of_pos a1 (show (0 : Int) < 5 by omega); omega
  obtain ⟨stop, hst⟩ : ∃ stop : Nat, (stop : Int) = a2 % 12 + 1 := ⟨(a2 % 12 + 1).toNat, Int.toNat_of_nonneg (by have := Int.emod_nonneg a2 (show (12 : Int) ≠ 0 by omega); omega)⟩
  have hst1 : 1 ≤ stop := by have := Int.emod_nonneg a2 (show (12 : Int) ≠ 0 by omega); omega
  have hst2 : stop ≤ 12 := by have := Int.emod_lt_of_pos a2 (show (0 : Int) < 12 by omega); omega
  have hbld := fun u hu => build_any a0 n cap0 q z u hu hn
  rw [hq] at hbld
  have hrf := fun u => ref_any q u hq4
  rw [hq] at hrf
  have HQ : Hid ((q : Int) = a1 % 5) := hq
  clear hq
  go_enter Yba.func4, Yba.ntmps4
  go_upto_region 5 with fail
  rw [← hst]
  obtain ⟨S, hSd⟩ : ∃ S, S = w.heap.size := ⟨_, rfl⟩
  generalize hW : World.alloc _ _ = W0
  have hBW0 : Below w.heap.size w W0 := by rw [← hW]; exact below_alloc _ _
  have hSW : W0.heap[S]? = some (.cells #[.int .i64 (stop : Int)] 3 (0, 0)) := by rw [← hW, hSd]; exact heap1a _ _
  have hSw : w.heap.size ≤ S := by omega
  rw [← hSd]
  have HST : Hid ((stop : Int) = a2 % 12 + 1) := hst
  clear hst hW hSd hd0 hbig
  have hbl := hbld W0 (h.below hBW0)
  clear hbld h
  go_upto_region 6 with (go_at_call 5; refine hbl.mono ?_; rintro e y1 ⟨R, vW, rfl, hRw, hRf, hO, hB1⟩)
  have hSl := (Array.getElem?_eq_some_iff.1 hSW).1
  have hSy1 := (hB1.block S hSl).trans hSW
  have cS := cell_of_row y1 S 0 _ _ _ hSy1
  obtain ⟨aW, cW, rfl⟩ := hO.shape
  obtain ⟨_, hLc, hcells⟩ := hO.cap
  obtain ⟨L, hLd⟩ : ∃ L, L = ix (kOf z) q n := ⟨_, rfl⟩
  have hLn : L.length ≤ 1024 := by rw [hLd]; have := ix_len (kOf z) q n; omega
  rw [← hLd] at hLc hcells hO
  rw [← hLd]
  have HL : Hid (L = ix (kOf z) q n) := hLd
  clear hLd hbl
  have sB1 := hB1.size
  by_cases hls : stop < L.length
  · have hls' : (stop : Int) < (L.length : Int) := by omega
    have hIW : IRow y1 (.slice aW stop cW) (L.take stop) := by
      have hl : (L.take stop).length = stop := by simp; omega
      refine ⟨aW, cW, by rw [hl], ?_⟩
      rcases hcells with h | ⟨b, rfl, h⟩
      · rw [h] at hls; simp at hls
      · refine .inr ⟨b, 0, rfl, fun i hi => ?_⟩
        rw [hl] at hi
        rw [Nat.zero_add, h i (by omega), List.getD_eq_getElem?_getD, List.getD_eq_getElem?_getD, List.getElem?_take, if_pos hi]
    have hlw : (L.take stop).length = stop := by simp; omega
    go_upto_region 9 with (go_at_call 6; refine (places_any R n (kOf z) y1 hRf (kOf_le z) hn).mono ?_; rintro e y2 ⟨P, Bf, mo, rfl, hP0, hBf0, hmo0, hPl, hB2⟩)
    have hIW1 := hIW.below hB2
    have hSy2 := (hB2.block S (by omega)).trans hSy1
    have hsS2 := (Array.getElem?_eq_some_iff.1 hSy2).1
    go_wp2_with (first
      | (go_at_call 8; refine (hrf _).mono ?_; rintro e y3 ⟨rfl, hB3⟩)
      | (go_at_call 7; refine (of_any P q _).mono ?_; rintro e y4 ⟨rfl, hu4'⟩; have HU4 : Hid (y4 = _) := hu4'; clear hu4')
      | (go_at_call 12; refine Hid.out ?_)
      | fail)
    unfold Hid
    have hu4 := HU4.out
    clear HU4
    obtain ⟨T, hTd⟩ : ∃ T, T = y2.heap.size + 1 := ⟨_, rfl⟩
    obtain ⟨b1, hb1d⟩ : ∃ b1, b1 = y3.heap.size := ⟨_, rfl⟩
    have hB4 : Below y3.heap.size y3 y4 := by rw [hu4]; exact below_al0 (below_al0 (Below.refl _ _))
    have hx1 : y4.heap[b1]? = some (.cells #[.pointer (some ⟨P, 0, none⟩)] 27 (0, 0)) := by rw [hu4, hb1d]; exact heap2a _ _ _
    have hx2 : y4.heap[b1 + 1]? = some (.cells (refC q).toArray 33 (0, 0)) := by rw [hu4, hb1d]; exact heap2b _ _ _
    rw [← hTd, ← hb1d]
    have hX1 : Below y2.heap.size y2 ((y2.alloc (.cells #[] 3)).alloc (.cells #[.slice (some ⟨y2.heap.size, 0, none⟩) 0 0] 24)) := below_al0 (below_al0 (Below.refl _ _))
    have hXT : ((y2.alloc (.cells #[] 3)).alloc (.cells #[.slice (some ⟨y2.heap.size, 0, none⟩) 0 0] 24)).heap[T]? = some (.cells #[.slice (some ⟨y2.heap.size, 0, none⟩) 0 0] 24 (0, 0)) := by rw [hTd]; exact heap2b _ _ _
    have hXO : OInts ((y2.alloc (.cells #[] 3)).alloc (.cells #[.slice (some ⟨y2.heap.size, 0, none⟩) 0 0] 24)) y2.heap.size (.slice (some ⟨y2.heap.size, 0, none⟩) 0 0) [] := ⟨rfl, .inr ⟨y2.heap.size, 0, #[], rfl, by omega, heap2a _ _ _, Nat.le_refl _, Nat.zero_le _, rfl, rfl⟩⟩
    have hX4 := hB3.trans (hB4.mono hB3.size)
    have hT4 := (hX4.block T (Array.getElem?_eq_some_iff.1 hXT).1).trans hXT
    have hO4 := owns_below hXO hX4
    have h24 : Below y2.heap.size y2 y4 := hX1.trans (hX4.mono hX1.size)
    have hS4 := (h24.block S hsS2).trans hSy2
    have hw2 : Below w.heap.size w y2 := (hBW0.trans (hB1.mono hBW0.size)).trans (hB2.mono (by have := hBW0.size; omega))
    have hw4 : Below w.heap.size w y4 := hw2.trans (h24.mono hw2.size)
    have hyT : y2.heap.size ≤ T := by omega
    have hIW4 := hIW1.below h24
    clear hu4 hTd hb1d hB4 hB3 hX1 hXT hXO hX4 hRf hO hB2 hB1 hrf cS hcells
    refine (seq_stop b1 (b1 + 1) T S stop P Bf y1.heap.size y2.heap.size q n mo (kOf z) y2 y4 hPl h24 (Nat.le_refl _) hyT h24.size hq4 hn hx1 hx2 ⟨_, hT4, hO4⟩ hS4 hsS2 hst1).mono ?_
    rintro e w5 ⟨rfl, hG5, hK5⟩
    rw [← HL.out] at hG5
    have hb5 : Below w.heap.size w w5 := hw4.trans ((hK5.low (B := y2.heap.size) hyT (Nat.le_refl _) h24.size).mono hw2.size)
    have hI5 := hIW1.below (h24.trans (hK5.low (B := y2.heap.size) hyT (Nat.le_refl _) h24.size))
    obtain ⟨M, hMd⟩ : ∃ M, M = L.take stop := ⟨_, rfl⟩
    rw [← hMd] at hG5 hI5
    have hMl : M.length ≤ 1024 := by rw [hMd]; simp; omega
    obtain ⟨v5, hT5, hO5⟩ := hG5
    obtain ⟨a5, c5, rfl⟩ := hO5.shape
    have c5T := cell_of_row w5 T 0 _ _ _ hT5
    have heq := equal_same _ _ M w5 hO5.irow hI5 (by omega)
    clear hMd hT4 hO4 hK5 hT5 hO5 hIW hIW1 hIW4 hlw
    go_wp2_with (first
      | (go_at_call 10; refine heq.mono ?_; rintro e w6 ⟨rfl, nq6, hw6⟩)
      | fail)
    go_ret
    exact ⟨rfl, ⟨hb5.os, hb5.tape, hb5.output, hb5.size, hb5.block⟩⟩
  · have hls' : ¬ (stop : Int) < (L.length : Int) := by omega
    have hdl : decide ((stop : Int) < (L.length : Int)) = false := by simpa using hls'
    have hIW : IRow y1 (.slice aW L.length cW) (L.take stop) := by
      rw [List.take_of_length_le (by omega)]
      exact hO.irow
    have hlw : True := trivial
    go_upto_region 9 with (go_at_call 6; refine (places_any R n (kOf z) y1 hRf (kOf_le z) hn).mono ?_; rintro e y2 ⟨P, Bf, mo, rfl, hP0, hBf0, hmo0, hPl, hB2⟩)
    have hIW1 := hIW.below hB2
    have hSy2 := (hB2.block S (by omega)).trans hSy1
    have hsS2 := (Array.getElem?_eq_some_iff.1 hSy2).1
    go_wp2_with (first
      | (go_at_call 8; refine (hrf _).mono ?_; rintro e y3 ⟨rfl, hB3⟩)
      | (go_at_call 7; refine (of_any P q _).mono ?_; rintro e y4 ⟨rfl, hu4'⟩; have HU4 : Hid (y4 = _) := hu4'; clear hu4')
      | (go_at_call 12; refine Hid.out ?_)
      | fail)
    unfold Hid
    have hu4 := HU4.out
    clear HU4
    obtain ⟨T, hTd⟩ : ∃ T, T = y2.heap.size + 1 := ⟨_, rfl⟩
    obtain ⟨b1, hb1d⟩ : ∃ b1, b1 = y3.heap.size := ⟨_, rfl⟩
    have hB4 : Below y3.heap.size y3 y4 := by rw [hu4]; exact below_al0 (below_al0 (Below.refl _ _))
    have hx1 : y4.heap[b1]? = some (.cells #[.pointer (some ⟨P, 0, none⟩)] 27 (0, 0)) := by rw [hu4, hb1d]; exact heap2a _ _ _
    have hx2 : y4.heap[b1 + 1]? = some (.cells (refC q).toArray 33 (0, 0)) := by rw [hu4, hb1d]; exact heap2b _ _ _
    rw [← hTd, ← hb1d]
    have hX1 : Below y2.heap.size y2 ((y2.alloc (.cells #[] 3)).alloc (.cells #[.slice (some ⟨y2.heap.size, 0, none⟩) 0 0] 24)) := below_al0 (below_al0 (Below.refl _ _))
    have hXT : ((y2.alloc (.cells #[] 3)).alloc (.cells #[.slice (some ⟨y2.heap.size, 0, none⟩) 0 0] 24)).heap[T]? = some (.cells #[.slice (some ⟨y2.heap.size, 0, none⟩) 0 0] 24 (0, 0)) := by rw [hTd]; exact heap2b _ _ _
    have hXO : OInts ((y2.alloc (.cells #[] 3)).alloc (.cells #[.slice (some ⟨y2.heap.size, 0, none⟩) 0 0] 24)) y2.heap.size (.slice (some ⟨y2.heap.size, 0, none⟩) 0 0) [] := ⟨rfl, .inr ⟨y2.heap.size, 0, #[], rfl, by omega, heap2a _ _ _, Nat.le_refl _, Nat.zero_le _, rfl, rfl⟩⟩
    have hX4 := hB3.trans (hB4.mono hB3.size)
    have hT4 := (hX4.block T (Array.getElem?_eq_some_iff.1 hXT).1).trans hXT
    have hO4 := owns_below hXO hX4
    have h24 : Below y2.heap.size y2 y4 := hX1.trans (hX4.mono hX1.size)
    have hS4 := (h24.block S hsS2).trans hSy2
    have hw2 : Below w.heap.size w y2 := (hBW0.trans (hB1.mono hBW0.size)).trans (hB2.mono (by have := hBW0.size; omega))
    have hw4 : Below w.heap.size w y4 := hw2.trans (h24.mono hw2.size)
    have hyT : y2.heap.size ≤ T := by omega
    have hIW4 := hIW1.below h24
    clear hu4 hTd hb1d hB4 hB3 hX1 hXT hXO hX4 hRf hO hB2 hB1 hrf cS hcells
    refine (seq_stop b1 (b1 + 1) T S stop P Bf y1.heap.size y2.heap.size q n mo (kOf z) y2 y4 hPl h24 (Nat.le_refl _) hyT h24.size hq4 hn hx1 hx2 ⟨_, hT4, hO4⟩ hS4 hsS2 hst1).mono ?_
    rintro e w5 ⟨rfl, hG5, hK5⟩
    rw [← HL.out] at hG5
    have hb5 : Below w.heap.size w w5 := hw4.trans ((hK5.low (B := y2.heap.size) hyT (Nat.le_refl _) h24.size).mono hw2.size)
    have hI5 := hIW1.below (h24.trans (hK5.low (B := y2.heap.size) hyT (Nat.le_refl _) h24.size))
    obtain ⟨M, hMd⟩ : ∃ M, M = L.take stop := ⟨_, rfl⟩
    rw [← hMd] at hG5 hI5
    have hMl : M.length ≤ 1024 := by rw [hMd]; simp; omega
    obtain ⟨v5, hT5, hO5⟩ := hG5
    obtain ⟨a5, c5, rfl⟩ := hO5.shape
    have c5T := cell_of_row w5 T 0 _ _ _ hT5
    have heq := equal_same _ _ M w5 hO5.irow hI5 (by omega)
    clear hMd hT4 hO4 hK5 hT5 hO5 hIW hIW1 hIW4 hlw
    go_wp2_with (first
      | (go_at_call 10; refine heq.mono ?_; rintro e w6 ⟨rfl, nq6, hw6⟩)
      | fail)
    go_ret
    exact ⟨rfl, ⟨hb5.os, hb5.tape, hb5.output, hb5.size, hb5.block⟩⟩

end Go.Proofs.Ybulkcryc
