import Derived.Test.YbulkcrycH
namespace Go.Proofs.Ybulkcryc
open Go.RowKit Go.ChangeMaps Go.MapKept

theorem IRow.below {w w' : World} {v : Value} {L : List Nat} (h : IRow w v L) (hb : Below w.heap.size w w') : IRow w' v L := by
  obtain ⟨a, cap, rfl, h⟩ := h
  refine ⟨a, cap, rfl, ?_⟩
  rcases h with h | ⟨b, off, rfl, h⟩
  · exact .inl h
  · exact .inr ⟨b, off, rfl, fun i hi => (hb.cell (World.block_lt_of_cell? _ _ (h i hi))).trans (h i hi)⟩
theorem kOf_le (z : Nat → Int) (i : Nat) : kOf z i ≤ 3 := by
  unfold kOf
  have h0 : 0 ≤ z i % 4 := Int.emod_nonneg _ (by omega)
  have h1 : z i % 4 < 4 := Int.emod_lt_of_pos _ (by omega)
  omega

set_option maxHeartbeats 1000000 in
theorem places_walk (a0 : Option Addr) (n cap0 : Nat) (z : Nat → Int) (a1 : Int) (w : World) (h : KArg w a0 n z) (hn0 : n ≤ 9223372036854775807) (hq0 : 0 ≤ a1) (hq1 : a1 ≤ 255) :
    Calls Yba.prog 3 #[.slice a0 n cap0, .int .u8 a1] w fun e w' => e = .returned (.bool true) ∧ Below w.heap.size w w' := by
  by_cases hbig : 1024 < n
  · go_enter Yba.func3, Yba.ntmps3
    go_wp2
    go_ret
    exact ⟨rfl, Below.refl _ _⟩
  have hn : n ≤ 1024 := by omega
  have hd0 : decide (1024 < (n : Int)) = false := by simp; omega
  obtain ⟨q, hq⟩ : ∃ q : Nat, (q : Int) = a1 % 5 := ⟨(a1 % 5).toNat, Int.toNat_of_nonneg (Int.emod_nonneg _ (by omega))⟩
  have hq4 : q ≤ 4 := by have := Int.emod_lt_of_pos a1 (show (0 : Int) < 5 by omega); omega
  have hbld := build_any a0 n cap0 q z w h hn
  rw [hq] at hbld
  have hrf := fun u => ref_any q u hq4
  rw [hq] at hrf
  have HQ : Hid ((q : Int) = a1 % 5) := hq
  clear hq
  go_enter Yba.func3, Yba.ntmps3
  go_wp2_with (first
    | (go_at_call 5; refine hbld.mono ?_; rintro e y1 ⟨R, vW, rfl, hRw, hRf, hO, hB1⟩)
    | (go_at_call 6; refine (places_any R n (kOf z) y1 hRf (kOf_le z) hn).mono ?_; rintro e y2 ⟨P, Bf, mo, rfl, hP0, hBf0, hmo0, hPl, hB2⟩)
    | (go_at_call 8; refine (hrf _).mono ?_; rintro e y3 ⟨rfl, hB3⟩)
    | (go_at_call 7; refine (of_any P q _).mono ?_; rintro e y4 ⟨rfl, hu4'⟩; have HU4 : Hid (y4 = _) := hu4'; clear hu4')
    | fail)
  obtain ⟨aW, cW, rfl⟩ := hO.shape
  have hu4 := HU4.out
  clear HU4
  obtain ⟨b1, hb1d⟩ : ∃ b1, b1 = y3.heap.size := ⟨_, rfl⟩
  have hB4 : Below y3.heap.size y3 y4 := by rw [hu4]; exact below_al0 (below_al0 (Below.refl _ _))
  have hx1 : y4.heap[b1]? = some (.cells #[.pointer (some ⟨P, 0, none⟩)] 27 (0, 0)) := by rw [hu4, hb1d]; exact heap2a _ _ _
  have hx2 : y4.heap[b1 + 1]? = some (.cells (refC q).toArray 33 (0, 0)) := by rw [hu4, hb1d]; exact heap2b _ _ _
  have h24 : Below y2.heap.size y2 y4 := hB3.trans (hB4.mono hB3.size)
  have h14 : Below y1.heap.size y1 y4 := hB2.trans (h24.mono hB2.size)
  have hw4 : Below w.heap.size w y4 := hB1.trans (h14.mono hB1.size)
  have hIW := hO.irow.below h14
  rw [← hb1d]
  clear hu4 hb1d hB4 hB3 hB2 hRf hO h14 hbld hrf hd0 hbig h
  have hmf : ∀ (fn : Fn) (first cap : Array Value) (w : World), (Instr.makeFunc fn first cap).run Yba.prog w = .ok (.func fn first cap) w := fun _ _ _ _ => rfl
  go_loopw [10] (fun i wr => ∃ r : Nat, r ≤ 2 ∧ i = .int .i64 r ∧ Below y4.heap.size y4 wr) (fun i _ => 2 - (intOf i).toNat)
  case atStart => exact ⟨0, by omega, rfl, Below.refl _ _⟩
  case round =>
    obtain ⟨r, hr, rfl, hb⟩ := hrel
    by_cases hlt : r < 2
    · have hlt' : (r : Int) < 2 := by omega
      go_wp2_with (first
        | (go_at_call 12; refine Hid.out ?_)
        | fail)
      unfold Hid
      generalize hW : World.alloc _ _ = W
      have hBW : Below wr.heap.size wr W := by rw [← hW]; exact below_al0 (below_al0 (Below.refl _ _))
      have hTW : W.heap[wr.heap.size + 1]? = some (.cells #[.slice (some ⟨wr.heap.size, 0, none⟩) 0 0] 24 (0, 0)) := by rw [← hW]; exact heap2b _ _ _
      have hOW : OInts W wr.heap.size (.slice (some ⟨wr.heap.size, 0, none⟩) 0 0) [] := ⟨rfl, .inr ⟨wr.heap.size, 0, #[], rfl, by omega, by rw [← hW]; exact heap2a _ _ _, Nat.le_refl _, Nat.zero_le _, rfl, rfl⟩⟩
      clear hW
      have h4W : Below y4.heap.size y4 W := hb.trans (hBW.mono hb.size)
      have s24 := h24.size
      have s4r := hb.size
      have srW := hBW.size
      refine (seq_all b1 (b1 + 1) (wr.heap.size + 1) P Bf y1.heap.size wr.heap.size q n mo (kOf z) y2 W hPl (h24.trans (h4W.mono s24)) (by omega) (by omega) srW hq4 hn ((h4W.block b1 (Array.getElem?_eq_some_iff.1 hx1).1).trans hx1) ((h4W.block (b1 + 1) (Array.getElem?_eq_some_iff.1 hx2).1).trans hx2) ⟨_, hTW, hOW⟩).mono ?_
      rintro e w5 ⟨rfl, hG5, hK5⟩
      have hb5 : Below y4.heap.size y4 w5 := hb.trans ((hBW.trans (hK5.low (B := wr.heap.size) (by omega) (by omega) srW)).mono s4r)
      obtain ⟨v5, hT5, hO5⟩ := hG5
      obtain ⟨a5, c5, rfl⟩ := hO5.shape
      have c5T := cell_of_row w5 (wr.heap.size + 1) 0 _ _ _ hT5
      have hI5 := hIW.below hb5
      have heq := equal_same (.slice a5 (ix (kOf z) q n).length c5) (.slice aW (ix (kOf z) q n).length cW) (ix (kOf z) q n) w5 hO5.irow hI5 (by have := ix_len (kOf z) q n; omega)
      clear hTW hOW hBW h4W hK5 hT5 hO5
      go_wp2_with (first
        | (go_at_call 10; refine heq.mono ?_; rintro e w6 ⟨rfl, nq6, hw6⟩)
        | fail)
      exact ⟨⟨r + 1, by omega, by go_num, ⟨hb5.os, hb5.tape, hb5.output, hb5.size, hb5.block⟩⟩, by simp [intOf]; omega⟩
    · have hr' : r = 2 := by omega
      subst hr'
      go_wp2
      go_ret
      exact ⟨rfl, hw4.trans (hb.mono hw4.size)⟩

end Go.Proofs.Ybulkcryc
