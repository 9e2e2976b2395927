import Derived.Test.YbulkcruwFmtB
import Derived.Deep.DeepCutAuto
namespace Go.Proofs.YbulkcruwFmt
open Go.RowKit Go.Extern.Stop Go.Stop Go.Extern

theorem arr_new_set (a0 a1 a2 a3 a4 a5 a6 v : Int) (k : Nat) (W : World) : Arr (W.alloc (.cells ([Value.int .i64 a0, .int .i64 a1, .int .i64 a2, .int .i64 a3, .int .i64 a4, .int .i64 a5, .int .i64 a6].set k (.int .i64 v)).toArray 22)) W.heap.size (fun j => if j = k then v else nums a0 a1 a2 a3 a4 a5 a6 j) := by
  refine ⟨fun j hj => ?_, fun j _ => World.frozen?_alloc_new _ _ _ _⟩
  have h := (arr_new a0 a1 a2 a3 a4 a5 a6 W).cell j hj
  rw [World.cell?_alloc_new] at h ⊢
  rw [List.getElem?_toArray] at h ⊢
  rw [List.getElem?_set]
  by_cases e : k = j
  · subst e
    simp [hj]
  · rw [if_neg e, if_neg (fun x => e x.symm)]
    exact h

theorem first_min (g : Nat → Int) : ∀ n : Nat, (∀ j, j < n → g j ≠ -9223372036854775808) ∨ ∃ m, m < n ∧ g m = -9223372036854775808 ∧ ∀ j, j < m → g j ≠ -9223372036854775808
  | 0 => .inl (fun j hj => by omega)
  | n + 1 => by
    rcases first_min g n with h | ⟨m, h1, h2, h3⟩
    · by_cases e : g n = -9223372036854775808
      · exact .inr ⟨n, by omega, e, h⟩
      · exact .inl (fun j hj => by
          by_cases e' : j = n
          · subst e'; exact e
          · exact h j (by omega))
    · exact .inr ⟨m, by omega, h2, h3⟩

set_option maxHeartbeats 1600000 in
set_option maxRecDepth 100000 in
theorem negate_walk (F : Interp) (a0 a1 a2 a3 a4 a5 a6 t : Int) (a : Addr) (s : ByteArray) (nm : Nat → ByteArray) (w : World) (hlo : ∀ i, i < 7 → -9223372036854775808 ≤ nums a0 a1 a2 a3 a4 a5 a6 i) (hhi : ∀ i, i < 7 → nums a0 a1 a2 a3 a4 a5 a6 i ≤ 9223372036854775807)
    (ht0 : 0 ≤ t) (ht1 : t ≤ 255) (hF : F.answers w.tape) (hg : w.cell? ⟨0, 0, none⟩ = some (.iface 53 (.pointer (some a)))) (hn : ∀ m, m < 7 → w.cell? ⟨1, m, none⟩ = some (.string (nm m))) (hs : w.cell? a = some (.string s)) :
    Calls Ybaf.prog 3 #[.agg #[.int .i64 a0, .int .i64 a1, .int .i64 a2, .int .i64 a3, .int .i64 a4, .int .i64 a5, .int .i64 a6], .int .u8 t] w fun e w' => e = .returned (.bool true) ∧ Below w.heap.size w w' := by
  have hB : 2 ≤ w.heap.size := World.block_lt_of_cell? _ _ (hn 0 (by omega))
  have hab := World.block_lt_of_cell? _ _ hs
  have tr : t % 8 < 8 ∧ 0 ≤ t % 8 := by omega
  go_enter Ybaf.func3, Ybaf.ntmps3
  go_upto_if 18 with fail
  go_cut [6] (fun _ wc => ∃ g : Nat → Int, Below w.heap.size w wc ∧ wc.heap.size = w.heap.size + 2 ∧ Arr wc (w.heap.size + 1) g ∧ (∀ j, j < 7 → -9223372036854775808 ≤ g j) ∧ (∀ j, j < 7 → g j ≤ 9223372036854775807))
  case first =>
    go_wp2
    · go_meet
      case rel =>
        have h := arr_new_set a0 a1 a2 a3 a4 a5 a6 (-9223372036854775808) (t % 8).toNat (w.alloc (.cells #[.int .i64 a0, .int .i64 a1, .int .i64 a2, .int .i64 a3, .int .i64 a4, .int .i64 a5, .int .i64 a6] 22))
        refine ⟨_, ((Below.refl _ _).alloc (Nat.le_refl _) _).alloc (by simp) _, by simp, by simpa using h, ?_, ?_⟩
        · intro j hj
          split
          · omega
          · exact hlo j hj
        · intro j hj
          split
          · omega
          · exact hhi j hj
    · go_meet
      case rel =>
        have h := arr_new a0 a1 a2 a3 a4 a5 a6 (w.alloc (.cells #[.int .i64 a0, .int .i64 a1, .int .i64 a2, .int .i64 a3, .int .i64 a4, .int .i64 a5, .int .i64 a6] 22))
        exact ⟨_, ((Below.refl _ _).alloc (Nat.le_refl _) _).alloc (by simp) _, by simp, by simpa using h, hlo, hhi⟩
  case rest =>
    obtain ⟨g, hb, hsz, ha, h2, h3⟩ := hcut
    clear hlo hhi ht0 ht1 tr
    have gc0 := ha.cell 0 (by omega)
    have gc1 := ha.cell 1 (by omega)
    have gc2 := ha.cell 2 (by omega)
    have gc3 := ha.cell 3 (by omega)
    have gc4 := ha.cell 4 (by omega)
    have gc5 := ha.cell 5 (by omega)
    have gc6 := ha.cell 6 (by omega)
    go_wp2_with fail
    generalize hW : wc.alloc _ = W
    have hb' : Below w.heap.size w W := by subst hW; exact hb.alloc (by omega) _
    have hz' : W.heap.size = w.heap.size + 3 := by subst hW; simp [hsz]
    have A1 : Arr W (w.heap.size + 1) g := by subst hW; exact ha.alloc _
    have A2 : Arr W (w.heap.size + 2) g := by subst hW; have := arr_new' g wc; rw [hsz] at this; exact this
    clear hW gc0 gc1 gc2 gc3 gc4 gc5 gc6 ha hb hsz
    rcases first_min g 7 with hno | ⟨m, hm7, hmin, hbef⟩
    · have h7 : ∀ j, j < 7 → -9223372036854775807 ≤ g j := fun j hj => by have := h2 j hj; have := hno j hj; omega
      refine (negate_ok (w.heap.size + 1) g W A1.cell A1.free h7 h3).mono ?_
      rintro e w1 ⟨rfl, ho, hc⟩
      have A3 : Arr w1 (w.heap.size + 1) (fun j => -(g j)) := ⟨hc, fun j hj => (ho.frozen j).trans (A1.free j hj)⟩
      have A4 : Arr w1 (w.heap.size + 2) g := A2.only ho (by omega)
      have hb1 : Below w.heap.size w w1 := Only.below hb' ho (by omega)
      clear A1 A2 ho hc hb'
      go_wp2_with fail
      go_loop [9, 10] (fun f i => ∃ k : Nat, k ≤ 7 ∧ i = .int .i64 k ∧ f = .int .i64 (-1)) (fun _ i => 7 - (intOf i).toNat)
      case atStart => exact ⟨0, by omega, rfl, rfl⟩
      case round =>
        obtain ⟨k, hk, rfl, rfl⟩ := hrel
        by_cases hlt : k < 7
        · have c4 := A4.cell k hlt
          have hne : (g k == -9223372036854775808) = false := beq_eq_false_iff_ne.2 (hno k hlt)
          go_wp2
          exact ⟨⟨k + 1, by omega, by go_num, rfl⟩, by simp [intOf]; omega⟩
        · go_wp2_with fail
          go_loopw [11] (fun i wr => ∃ (k n : Nat), k ≤ 7 ∧ i = .int .i64 k ∧ wr = w1.drewN n) (fun i _ => 7 - (intOf i).toNat)
          case atStart => exact ⟨0, 0, by omega, rfl, rfl⟩
          case round =>
            obtain ⟨k', n, hk', rfl, rfl⟩ := hrel
            by_cases hlt' : k' < 7
            · have c3 := A3.cell k' hlt'
              have c4 := A4.cell k' hlt'
              have l1 := h7 k' hlt'
              have l2 := h3 k' hlt'
              go_wp2
              go_quiet (fail)
              go_wp2
              exact ⟨⟨k' + 1, n + nq, by omega, by go_num, rfl⟩, by simp [intOf]; omega⟩
            · go_wp2
              go_ret
              exact ⟨rfl, ⟨hb1.os, hb1.tape, hb1.output, hb1.size, hb1.block⟩⟩
    · have hgW : W.cell? ⟨0, 0, none⟩ = some (.iface 53 (.pointer (some a))) := (hb'.cell (p := ⟨0, 0, none⟩) (by show 0 < _; omega)).trans hg
      have hnW : W.cell? ⟨1, m, none⟩ = some (.string (nm m)) := (hb'.cell (p := ⟨1, m, none⟩) (by show 1 < _; omega)).trans (hn m hm7)
      have hsW : W.cell? a = some (.string s) := (hb'.cell hab).trans hs
      refine (negate_bad F (w.heap.size + 1) m g a s (nm m) W (by rw [hb'.tape]; exact hF) hm7 A1.cell A1.free (fun j hj => by have := h2 j (by omega); have := hbef j hj; omega) h3 hmin (by omega) hgW hnW hsW (by omega)).mono ?_
      rintro e w2 ⟨w1, ho, hc1, hc2, rfl, hbw, hcw⟩
      rw [hz'] at hbw hcw
      rw [hz']
      have B1 : ∀ j, j < m → w2.cell? ⟨w.heap.size + 1, j, none⟩ = some (.int .i64 (-(g j))) := fun j hj => (hbw.cell (p := ⟨w.heap.size + 1, j, none⟩) (by show _ + 1 < _; omega)).trans (hc1 j hj)
      have B2 : ∀ j, m ≤ j → j < 7 → w2.cell? ⟨w.heap.size + 1, j, none⟩ = some (.int .i64 (g j)) := fun j hj hj7 => (hbw.cell (p := ⟨w.heap.size + 1, j, none⟩) (by show _ + 1 < _; omega)).trans (hc2 j hj hj7)
      have B3 : ∀ j, j < 7 → w2.cell? ⟨w.heap.size + 2, j, none⟩ = some (.int .i64 (g j)) := fun j hj => (hbw.cell (p := ⟨w.heap.size + 2, j, none⟩) (by show _ + 2 < _; omega)).trans ((A2.only ho (by omega)).cell j hj)
      have hg2 : w2.cell? ⟨0, 0, none⟩ = some (.iface 53 (.pointer (some a))) := (hbw.cell (p := ⟨0, 0, none⟩) (by show 0 < _; omega)).trans ((World.cell?_of_block (w := W) (a := ⟨0, 0, none⟩) (ho.block 0 (by omega))).trans hgW)
      have hb2 : Below w.heap.size w w2 := (Only.below hb' ho (by omega)).trans (hbw.mono (by omega))
      clear hc1 hc2 hbw ho A1 A2 hgW hnW hsW hb' hz'
      go_wp2_with fail
      go_loop [9, 10] (fun f i => ∃ k : Nat, k ≤ m ∧ i = .int .i64 k ∧ f = .int .i64 (-1)) (fun _ i => 7 - (intOf i).toNat)
      case atStart => exact ⟨0, by omega, rfl, rfl⟩
      case round =>
        obtain ⟨k, hk, rfl, rfl⟩ := hrel
        have c4 := B3 k (by omega)
        by_cases hlt : k < m
        · have hne : (g k == -9223372036854775808) = false := beq_eq_false_iff_ne.2 (hbef k hlt)
          clear hmin
          go_wp2
          exact ⟨⟨k + 1, by omega, by go_num, rfl⟩, by simp [intOf]; omega⟩
        · obtain rfl : k = m := by omega
          have hne : (g k == -9223372036854775808) = true := beq_iff_eq.2 hmin
          clear hmin
          go_wp2_with fail
          refine (is_wrap_same (w.heap.size + 3 + 1) 0 a w2 hcw).mono ?_
          rintro e w3 ⟨rfl, rfl⟩
          go_wp2_with fail
          go_loopw [12] (fun i wr => ∃ (k' n : Nat), k' ≤ 7 ∧ i = .int .i64 k' ∧ wr = w3.drewN n) (fun i _ => 7 - (intOf i).toNat)
          case atStart => exact ⟨0, 0, by omega, rfl, rfl⟩
          case round =>
            obtain ⟨k', n, hk', rfl, rfl⟩ := hrel
            by_cases hlt' : k' < 7
            · have c3 := B3 k' hlt'
              have l1 := h2 k' hlt'
              have l2 := h3 k' hlt'
              by_cases hkm : k' < k
              · have c5 := B1 k' hkm
                have l3 : -9223372036854775807 ≤ g k' := by have := hbef k' hkm; omega
                go_wp2
                go_quiet (fail)
                go_wp2
                exact ⟨⟨k' + 1, n + nq, by omega, by go_num, rfl⟩, by simp [intOf]; omega⟩
              · have c5 := B2 k' (by omega) hlt'
                go_wp2
                go_quiet (fail)
                go_wp2
                exact ⟨⟨k' + 1, n + nq, by omega, by go_num, rfl⟩, by simp [intOf]; omega⟩
            · go_wp2
              go_ret
              exact ⟨rfl, ⟨hb2.os, hb2.tape, hb2.output, hb2.size, hb2.block⟩⟩

end Go.Proofs.YbulkcruwFmt
