import Derived.Test.YbulkcrtuTH
namespace Go.Proofs.Ybulkcrtu
open Go.RowKit Go.ChangeMaps Go.MapKept

theorem pairsC_append (ps : List (Nat × Nat)) (q : Nat × Nat) : pairsC (ps ++ [q]) = pairsC ps ++ pairC q.1 q.2 := by
  unfold pairsC
  rw [List.flatMap_append]
  simp
theorem runL_le (v : Nat → Bool) (n : Nat) (whole : Bool) (kept : List Nat) (key : Nat → Nat) (hk : ∀ i ∈ kept, key i ≤ 255) : ∀ m, m ≤ kept.length → (∀ q ∈ runL v n whole kept key m, q.1 ≤ 255 ∧ q.2 ≤ 255) ∧ (runL v n whole kept key m).length ≤ m
  | 0, _ => by simp [runL]
  | m + 1, hm => by
    obtain ⟨h1, h2⟩ := runL_le v n whole kept key hk m (by omega)
    have hml : (m + 1) % kept.length < kept.length := Nat.mod_lt _ (by omega)
    have hpa : (pairAt kept key m).1 ≤ 255 ∧ (pairAt kept key m).2 ≤ 255 := by
      unfold pairAt
      refine ⟨hk _ ?_, hk _ ?_⟩
      · rw [List.getD_eq_getElem?_getD, List.getElem?_eq_getElem (by omega)]; exact List.getElem_mem _
      · rw [List.getD_eq_getElem?_getD, List.getElem?_eq_getElem hml]; exact List.getElem_mem _
    rw [runL]
    unfold stepL
    split
    · exact ⟨h1, by omega⟩
    · split
      · refine ⟨fun q hq => ?_, by simp; omega⟩
        rcases List.mem_append.1 hq with hq | hq
        · exact h1 q hq
        · simp only [List.mem_singleton] at hq
          rw [hq]; exact hpa
      · exact ⟨h1, by omega⟩
set_option maxRecDepth 100000 in
set_option maxHeartbeats 2000000 in
/-- The law's model of the pairs. -/
theorem law5 (bL bR bV n nl : Nat) (p : LkP) (fr : Int) (whole : Bool) (rs : Nat → Nat × Nat) (v : Nat → Bool) (kept : List Nat) (kp : Option Addr) (kc : Nat) (R : Ending → World → Prop)
    (hn : n ≤ 300) (hrs : ∀ i, i < n → (rs i).1 ≤ 255) (hkn : ∀ i ∈ kept, i < n) (hkl : kept.length ≤ n)
    (a : Act) (w : World) (hA : At a 499 [(3, .bool whole), (21, .int .i64 (n : Int)), (22, .int .u16 fr), (26, .pointer (some ⟨bL, 0, none⟩)), (36, .slice (some ⟨bR, 0, none⟩) n n), (43, .slice kp kept.length kc), (50, .slice (some ⟨bV, 0, none⟩) n n)]) (hL : Lk w bL p) (hRt : Routes w bR n rs) (hV : Row w bV 4 n (fun i => .bool (v i))) (hK : Ints w (.slice kp kept.length kc) (kept.map fun (x : Nat) => (x : Int)))
    (hM : LinkM w p.linked nl 0 (runL v n whole kept (fun i => (rs i).1) kept.length) fr)
    (hR : ∀ w', Chg (fun _ => False) w w' → R (.returned (.bool true)) w') : (dropS 28 (Yba.f3.body.getD .skip)).wp Yba.prog (bodyPost Yba.prog Yba.f3 R) a w := by
  have hrl := runL_le v n whole kept (fun i => (rs i).1) (fun i hi => hrs i (hkn i hi))
  refine sq ?_
  refine st0 hA (wn rfl) rfl rfl (x_as rfl) fun a hA => ?_
  refine fin ?_
  refine wp_seq ?_
  refine sq ?_
  refine st0 hA (wn rfl) rfl rfl (x_as rfl) fun a hA => ?_
  refine fin ?_
  have hend : ∀ a w' pv, At a 499 [(22, .int .u16 fr), (26, .pointer (some ⟨bL, 0, none⟩)), (53, pv)] → Chg (fun _ => False) w w' → w'.ownsRow w.heap.size 65 64 pv (runL v n whole kept (fun i => (rs i).1) kept.length).length (pairsC (runL v n whole kept (fun i => (rs i).1) kept.length)) → (dropS 30 (Yba.f3.body.getD .skip)).wp Yba.prog (bodyPost Yba.prog Yba.f3 R) a w' := fun a w' pv h1 h2 h3 =>
    law6 bL nl w.heap.size p fr _ pv R (hrl _ (Nat.le_refl _)).1 (by have := (hrl _ (Nat.le_refl _)).2; omega) a w' h1 (Row.chg hL h2 id) (hM.chg h2) h3 fun w'' h4 => hR w'' (h2.trans h4)
  refine lpb (fun m a w' => ∃ (k : Nat) (pv : Value), k + m = kept.length ∧ At a 499 [(3, .bool whole), (21, .int .i64 (n : Int)), (22, .int .u16 fr), (26, .pointer (some ⟨bL, 0, none⟩)), (36, .slice (some ⟨bR, 0, none⟩) n n), (43, .slice kp kept.length kc), (50, .slice (some ⟨bV, 0, none⟩) n n), (53, pv), (54, .int .i64 (k : Int))] ∧ Chg (fun _ => False) w w' ∧ w'.ownsRow w.heap.size 65 64 pv (runL v n whole kept (fun i => (rs i).1) k).length (pairsC (runL v n whole kept (fun i => (rs i).1) k))) kept.length ⟨0, .slice none 0 0, by omega, hA.pick [3, 21, 22, 26, 36, 43, 50, 53, 54], Chg.refl _ _, World.ownsRow_nil _ _ _ _⟩ ?_
  rintro m a w1 ⟨k, pv, hkm, hA, hc, hown⟩
  refine wp_seq ?_
  by_cases hlt : k < kept.length
  case neg =>
    have hkk : k = kept.length := by omega
    subst hkk
    refine sq ?_
    refine st0 hA (wn rfl) rfl rfl (x_mv rfl) fun a hA => ?_
    refine st0 hA (wn rfl) rfl rfl (x_mv rfl) fun a hA => ?_
    refine st0 hA (wn rfl) rfl rfl (x_len rfl Yba.underlying60) fun a hA => ?_
    refine st0 hA (wn rfl) rfl rfl (x_bin rfl rfl (lss3F _ _ _ _ (by omega))) fun a hA => ?_
    refine fin ?_
    exact cdfe hA rfl (x_th (xin (n_th (hend _ _ pv (hA.pick [22, 26, 53]) hc hown))))
  have hK1 := hK.chgF hc
  obtain ⟨bk, ok, rfl, hcell⟩ := ints_get hK1 hlt
  have hml : (k + 1) % kept.length < kept.length := Nat.mod_lt _ (by omega)
  obtain ⟨bk', ok', he', hcell'⟩ := ints_get hK1 hml
  simp only [Option.some.injEq, Addr.mk.injEq] at he'
  obtain ⟨rfl, rfl, _⟩ := he'
  have hin : kept.getD k 0 < n := by
    rw [List.getD_eq_getElem?_getD, List.getElem?_eq_getElem hlt]
    exact hkn _ (List.getElem_mem _)
  have hjn : kept.getD ((k + 1) % kept.length) 0 < n := by
    rw [List.getD_eq_getElem?_getD, List.getElem?_eq_getElem hml]
    exact hkn _ (List.getElem_mem _)
  have hV1 := hV.chg hc id
  have hR1 : Routes w1 bR n rs := Row.chg hRt hc id
  have hstep : runL v n whole kept (fun i => (rs i).1) (k + 1) = stepL v n whole kept (fun i => (rs i).1) (runL v n whole kept (fun i => (rs i).1) k) k := rfl
  obtain ⟨hle1, hle2⟩ := hrl k (by omega)
  refine sq ?_
  refine st0 hA (wn rfl) rfl rfl (x_mv rfl) fun a hA => ?_
  refine st0 hA (wn rfl) rfl rfl (x_mv rfl) fun a hA => ?_
  refine st0 hA (wn rfl) rfl rfl (x_len rfl Yba.underlying60) fun a hA => ?_
  refine st0 hA (wn rfl) rfl rfl (x_bin rfl rfl (lss3T _ _ _ _ (by omega))) fun a hA => ?_
  refine fin ?_
  refine cdts hA rfl ?_
  refine cut (fun a' w' => ∃ pv', At a' 499 [(3, .bool whole), (21, .int .i64 (n : Int)), (22, .int .u16 fr), (26, .pointer (some ⟨bL, 0, none⟩)), (36, .slice (some ⟨bR, 0, none⟩) n n), (43, .slice (some ⟨bk, ok, none⟩) kept.length kc), (50, .slice (some ⟨bV, 0, none⟩) n n), (53, pv'), (54, .int .i64 (k : Int))] ∧ Chg (fun _ => False) w w' ∧ w'.ownsRow w.heap.size 65 64 pv' (runL v n whole kept (fun i => (rs i).1) (k + 1)).length (pairsC (runL v n whole kept (fun i => (rs i).1) (k + 1)))) ?_ ?_
  · refine wp_block ?_
    refine cut (fun a' w' => (At a' 499 [(3, .bool whole), (21, .int .i64 (n : Int)), (22, .int .u16 fr), (26, .pointer (some ⟨bL, 0, none⟩)), (36, .slice (some ⟨bR, 0, none⟩) n n), (43, .slice (some ⟨bk, ok, none⟩) kept.length kc), (50, .slice (some ⟨bV, 0, none⟩) n n), (53, pv), (54, .int .i64 (k : Int))] ∧ w1 = w') ∧ ¬ (k + 1 = kept.length ∧ whole = false)) ?_ ?_
    · refine sq ?_
      refine st0 hA (wn rfl) rfl rfl (x_mv rfl) fun a hA => ?_
      refine st0 hA (wn rfl) rfl rfl (x_bin rfl rfl (add3N _ _ _ (by omega))) fun a hA => ?_
      refine st0 hA (wn rfl) rfl rfl (x_mv rfl) fun a hA => ?_
      refine st0 hA (wn rfl) rfl rfl (x_len rfl Yba.underlying60) fun a hA => ?_
      by_cases hb1 : k + 1 = kept.length
      · refine st0 hA (wn rfl) rfl rfl (x_bin rfl rfl (eql3T _ _ _ _ (by omega))) fun a hA => ?_
        refine st0 hA (wn rfl) rfl rfl (x_mv rfl) fun a hA => ?_
        refine st0 hA (wy rfl rfl rfl) rfl rfl (x_mv rfl) fun a hA => ?_
        refine st0 hA (wy rfl rfl rfl) rfl rfl (x_not rfl) fun a hA => ?_
        cases whole with
        | false =>
          refine st0 hA (wn rfl) rfl rfl (x_pick rfl rfl) fun a hA => ?_
          refine fin ?_
          refine cdte hA rfl (xout (x_th (x_th (xin (n_th (hend _ _ pv (hA.pick [22, 26, 53]) hc ?_))))) rfl)
          have e : runL v n false kept (fun i => (rs i).1) kept.length = runL v n false kept (fun i => (rs i).1) k := by
            rw [← hb1, runL, stepL, if_pos ⟨by omega, rfl⟩]
          rw [e]
          exact hown
        | true =>
          refine st0 hA (wn rfl) rfl rfl (x_pick rfl rfl) fun a hA => ?_
          refine fin ?_
          exact cdfs hA rfl ⟨⟨hA.pick [3, 21, 22, 26, 36, 43, 50, 53, 54], rfl⟩, by simp⟩
      · refine st0 hA (wn rfl) rfl rfl (x_bin rfl rfl (eql3F _ _ _ _ (by omega))) fun a hA => ?_
        refine st0 hA (wn rfl) rfl rfl (x_mv rfl) fun a hA => ?_
        refine sts hA (sh rfl rfl rfl rfl) rfl rfl fun a hA => ?_
        refine sts hA (sh rfl rfl rfl rfl) rfl rfl fun a hA => ?_
        refine st0 hA (wn rfl) rfl rfl (x_pick rfl rfl) fun a hA => ?_
        refine fin ?_
        exact cdfs hA rfl ⟨⟨hA.pick [3, 21, 22, 26, 36, 43, 50, 53, 54], rfl⟩, fun h => hb1 h.1⟩
    rintro a _ ⟨⟨hA, rfl⟩, hnb⟩
    rw [stepL, if_neg hnb, pairAt] at hstep
    generalize hi : kept.getD k 0 = i at *
    generalize hj : kept.getD ((k + 1) % kept.length) 0 = j at *
    generalize hps : runL v n whole kept (fun i => (rs i).1) k = ps at *
    refine sq ?_
    refine st0 hA (wn rfl) rfl rfl (x_mv rfl) fun a hA => ?_
    refine st0 hA (wn rfl) rfl rfl (x_mv rfl) fun a hA => ?_
    refine st0 hA (wn rfl) rfl rfl (x_idx rfl rfl (idxS _ _ _ _ _ _ Yba.underlying60 sz3 hlt)) fun a hA => ?_
    refine st0 hA (wn rfl) rfl rfl (x_load rfl (load_cell ag3 _ _ _ (by rw [Nat.mul_one]; exact hcell))) fun a hA => ?_
    refine st0 hA (wn rfl) rfl rfl (x_as rfl) fun a hA => ?_
    refine fin ?_
    refine sq ?_
    refine st0 hA (wn rfl) rfl rfl (x_mv rfl) fun a hA => ?_
    refine st0 hA (wn rfl) rfl rfl (x_mv rfl) fun a hA => ?_
    refine st0 hA (wn rfl) rfl rfl (x_bin rfl rfl (add3N _ _ _ (by omega))) fun a hA => ?_
    refine st0 hA (wn rfl) rfl rfl (x_mv rfl) fun a hA => ?_
    refine st0 hA (wn rfl) rfl rfl (x_len rfl Yba.underlying60) fun a hA => ?_
    refine st0 hA (wn rfl) rfl rfl (x_bin rfl rfl (rem3N _ _ _ _ (by omega))) fun a hA => ?_
    refine st0 hA (wn rfl) rfl rfl (x_idx rfl rfl (idxS _ _ _ _ _ _ Yba.underlying60 sz3 hml)) fun a hA => ?_
    refine st0 hA (wn rfl) rfl rfl (x_load rfl (load_cell ag3 _ _ _ (by rw [Nat.mul_one]; exact hcell'))) fun a hA => ?_
    refine st0 hA (wn rfl) rfl rfl (x_as rfl) fun a hA => ?_
    refine fin ?_
    refine sq ?_
    refine st0 hA (wn rfl) rfl rfl (x_as rfl) fun a hA => ?_
    refine fin ?_
    refine sq ?_
    refine st0 hA (wn rfl) rfl rfl (x_mv rfl) fun a hA => ?_
    refine st0 hA (wn rfl) rfl rfl (x_as rfl) fun a hA => ?_
    refine fin ?_
    refine cut (fun a' w' => At a' 499 [(3, .bool whole), (21, .int .i64 (n : Int)), (22, .int .u16 fr), (26, .pointer (some ⟨bL, 0, none⟩)), (36, .slice (some ⟨bR, 0, none⟩) n n), (43, .slice (some ⟨bk, ok, none⟩) kept.length kc), (50, .slice (some ⟨bV, 0, none⟩) n n), (53, pv), (54, .int .i64 (k : Int)), (55, .int .i64 (i : Int)), (56, .int .i64 (j : Int)), (57, .bool (spanF v n i j))] ∧ w1 = w') ?_ ?_
    · refine sq ?_
      refine st0 hA (wn rfl) rfl rfl (x_as rfl) fun a hA => ?_
      refine fin ?_
      have hi0 : (i : Int) = (((i + 0) % n : Nat) : Int) := by rw [Nat.add_zero, Nat.mod_eq_of_lt hin]
      refine lpb (fun m' a' w' => ∃ t : Nat, t + 1 + m' = dist n i j ∧ At a' 499 [(3, .bool whole), (21, .int .i64 (n : Int)), (22, .int .u16 fr), (26, .pointer (some ⟨bL, 0, none⟩)), (36, .slice (some ⟨bR, 0, none⟩) n n), (43, .slice (some ⟨bk, ok, none⟩) kept.length kc), (50, .slice (some ⟨bV, 0, none⟩) n n), (53, pv), (54, .int .i64 (k : Int)), (55, .int .i64 (i : Int)), (56, .int .i64 (j : Int)), (57, .bool true), (58, .int .i64 (((i + t) % n : Nat) : Int)), (59, .int .i64 (t : Int))] ∧ ((List.range t).all fun t => v ((i + t) % n)) = true ∧ w1 = w') (dist n i j - 1)
        ⟨0, by have := dist_pos (j := j) hin; omega, by rw [← hi0]; exact hA.pick [3, 21, 22, 26, 36, 43, 50, 53, 54, 55, 56, 57, 58, 59], rfl, rfl⟩ ?_
      rintro m' a _ ⟨t, ht, hA, hall, rfl⟩
      have hdl := dist_le (i := i) (j := j) hin hjn
      have hsn : (i + t) % n < n := Nat.mod_lt _ (by omega)
      refine wp_seq ?_
      refine sq ?_
      refine st0 hA (wn rfl) rfl rfl (x_mv rfl) fun a hA => ?_
      refine st0 hA (wn rfl) rfl rfl (x_mv rfl) fun a hA => ?_
      refine st0 hA (wn rfl) rfl rfl (x_bin rfl rfl (leq3T _ _ _ _ (by omega))) fun a hA => ?_
      refine fin ?_
      refine cdts hA rfl ?_
      refine cut (fun a' w' => (m' ≠ 0 ∧ At a' 499 [(3, .bool whole), (21, .int .i64 (n : Int)), (22, .int .u16 fr), (26, .pointer (some ⟨bL, 0, none⟩)), (36, .slice (some ⟨bR, 0, none⟩) n n), (43, .slice (some ⟨bk, ok, none⟩) kept.length kc), (50, .slice (some ⟨bV, 0, none⟩) n n), (53, pv), (54, .int .i64 (k : Int)), (55, .int .i64 (i : Int)), (56, .int .i64 (j : Int)), (57, .bool true), (58, .int .i64 (((i + (t + 1)) % n : Nat) : Int)), (59, .int .i64 (t : Int))] ∧ ((List.range (t + 1)).all fun t => v ((i + t) % n)) = true) ∧ w1 = w') ?_ ?_
      · refine wp_block ?_
        refine wp_seq ?_
        refine sq ?_
        refine st0 hA (wn rfl) rfl rfl (x_mv rfl) fun a hA => ?_
        refine st0 hA (wn rfl) rfl rfl (x_mv rfl) fun a hA => ?_
        refine st0 hA (wn rfl) rfl rfl (x_idx rfl rfl (idxS _ _ _ _ _ _ Yba.underlying23 sz4 hsn)) fun a hA => ?_
        refine st0 hA (wn rfl) rfl rfl (x_load rfl (hV1.load1 ag4 (by omega))) fun a hA => ?_
        refine st0 hA (wn rfl) rfl rfl (x_not rfl) fun a hA => ?_
        have e1 : v (0 + (i + t) % n * 1) = v ((i + t) % n) := by rw [Nat.zero_add, Nat.mul_one]
        rw [e1] at hA
        cases hvt : v ((i + t) % n) with
        | false =>
          rw [hvt] at hA
          refine fin ?_
          refine cdt hA rfl ?_
          refine sq ?_
          refine st0 hA (wn rfl) rfl rfl (x_as rfl) fun a hA => ?_
          refine fin ?_
          refine wp_exit (x_th (xout (x_th (x_th (xin (n_th ⟨?_, rfl⟩)))) rfl))
          have : spanF v n i j = false := all_false (t := t + 1) (by rw [all_succ, hvt, Bool.and_false]) (by omega)
          rw [this]
          exact hA.pick [3, 21, 22, 26, 36, 43, 50, 53, 54, 55, 56, 57]
        | true =>
          rw [hvt] at hA
          refine fin ?_
          refine cdfs hA rfl ?_
          have hall' : ((List.range (t + 1)).all fun t => v ((i + t) % n)) = true := by rw [all_succ, hall, hvt]; rfl
          refine sq ?_
          refine st0 hA (wn rfl) rfl rfl (x_mv rfl) fun a hA => ?_
          refine st0 hA (wn rfl) rfl rfl (x_bin rfl rfl (add3N _ _ _ (by omega))) fun a hA => ?_
          refine st0 hA (wn rfl) rfl rfl (x_mv rfl) fun a hA => ?_
          refine st0 hA (wn rfl) rfl rfl (x_bin rfl rfl (rem3N _ _ _ _ (by omega))) fun a hA => ?_
          refine st0 hA (wn rfl) rfl rfl (x_as rfl) fun a hA => ?_
          refine fin ?_
          rw [next_mod] at hA
          have hhit := dist_hit (t := t + 1) hin hjn (by omega) (by omega)
          refine sq ?_
          refine st0 hA (wn rfl) rfl rfl (x_mv rfl) fun a hA => ?_
          refine st0 hA (wn rfl) rfl rfl (x_mv rfl) fun a hA => ?_
          by_cases hm0 : m' = 0
          · have hd : t + 1 = dist n i j := by omega
            refine st0 hA (wn rfl) rfl rfl (x_bin rfl rfl (eql3T _ _ _ _ (by have := hhit.2 hd; omega))) fun a hA => ?_
            refine fin ?_
            refine cdt hA rfl (wp_exit (xout (x_th (x_th (xin (n_th ⟨?_, rfl⟩)))) rfl))
            have : spanF v n i j = true := by unfold spanF; rw [← hd]; exact hall'
            rw [this]
            exact hA.pick [3, 21, 22, 26, 36, 43, 50, 53, 54, 55, 56, 57]
          · refine st0 hA (wn rfl) rfl rfl (x_bin rfl rfl (eql3F _ _ _ _ (by have : ¬ (i + (t + 1)) % n = j := (fun e => hm0 (by have := hhit.1 e; omega)); omega))) fun a hA => ?_
            refine fin ?_
            exact cdfz hA rfl (n_in (n_th ⟨⟨hm0, hA.pick [3, 21, 22, 26, 36, 43, 50, 53, 54, 55, 56, 57, 58, 59], hall'⟩, rfl⟩))
      rintro a _ ⟨⟨hm0, hA, hall'⟩, rfl⟩
      refine rg ?_
      refine st0 hA (wn rfl) rfl rfl (x_mv rfl) fun a hA => ?_
      refine st0 hA (wn rfl) rfl rfl (x_bin rfl rfl (add3N _ _ _ (by omega))) fun a hA => ?_
      refine st0 hA (wn rfl) rfl rfl (x_as rfl) fun a hA => ?_
      exact fin0 (n_th ⟨m' - 1, by omega, t + 1, by omega, hA.pick [3, 21, 22, 26, 36, 43, 50, 53, 54, 55, 56, 57, 58, 59], hall', rfl⟩)
    rintro a _ ⟨hA, rfl⟩
    have hki := hrs i hin
    have hkj := hrs j hjn
    have hback : ∀ a w' pv', At a 499 [(3, .bool whole), (21, .int .i64 (n : Int)), (22, .int .u16 fr), (26, .pointer (some ⟨bL, 0, none⟩)), (36, .slice (some ⟨bR, 0, none⟩) n n), (43, .slice (some ⟨bk, ok, none⟩) kept.length kc), (50, .slice (some ⟨bV, 0, none⟩) n n), (53, pv'), (54, .int .i64 (k : Int))] → Chg (fun _ => False) w w' → w'.ownsRow w.heap.size 65 64 pv' (runL v n whole kept (fun i => (rs i).1) (k + 1)).length (pairsC (runL v n whole kept (fun i => (rs i).1) (k + 1))) → ∃ pv', At a 499 [(3, .bool whole), (21, .int .i64 (n : Int)), (22, .int .u16 fr), (26, .pointer (some ⟨bL, 0, none⟩)), (36, .slice (some ⟨bR, 0, none⟩) n n), (43, .slice (some ⟨bk, ok, none⟩) kept.length kc), (50, .slice (some ⟨bV, 0, none⟩) n n), (53, pv'), (54, .int .i64 (k : Int))] ∧ Chg (fun _ => False) w w' ∧ w'.ownsRow w.heap.size 65 64 pv' (runL v n whole kept (fun i => (rs i).1) (k + 1)).length (pairsC (runL v n whole kept (fun i => (rs i).1) (k + 1))) := fun a w' pv' h1 h2 h3 => ⟨pv', h1, h2, h3⟩
    refine wp_seq ?_
    refine sq ?_
    refine st0 hA (wn rfl) rfl rfl (x_mv rfl) fun a hA => ?_
    refine st0 hA (wn rfl) rfl rfl (x_not rfl) fun a hA => ?_
    refine fin ?_
    cases hspan : spanF v n i j with
    | false =>
      rw [hspan] at hA
      refine cdte hA rfl (xin (n_th (hback _ _ pv (hA.pick [3, 21, 22, 26, 36, 43, 50, 53, 54]) hc ?_)))
      rw [hstep, if_neg (fun h => by rw [hspan] at h; cases h.1)]
      exact hown
    | true =>
      rw [hspan] at hA
      refine cdfs hA rfl ?_
      have hA : At a 499 [(3, .bool whole), (21, .int .i64 (n : Int)), (22, .int .u16 fr), (26, .pointer (some ⟨bL, 0, none⟩)), (36, .slice (some ⟨bR, 0, none⟩) n n), (43, .slice (some ⟨bk, ok, none⟩) kept.length kc), (50, .slice (some ⟨bV, 0, none⟩) n n), (53, pv), (54, .int .i64 (k : Int)), (55, .int .i64 (i : Int)), (56, .int .i64 (j : Int))] := hA.pick [3, 21, 22, 26, 36, 43, 50, 53, 54, 55, 56]
      obtain ⟨W1, hr1, m1⟩ := mk_alloc _ al65 w1.drew
      have hs1 : W1.heap.size = w1.heap.size + 1 := m1.2.1
      obtain ⟨W2, hr2, u2, r2⟩ := m1.row.store (ty := 65) (o := 0) (pairC (rs i).1 (rs j).1) (by rw [pairC_len]; exact info65) (pairC_one _ _) (by rw [pairC_len]; exact Nat.le_refl _)
      have c01 : Chg (fun _ => False) w1 W1 := (Chg.refl _ w1).drew.trans (Chg.of_below m1.1)
      have hC2 : Chg (fun _ => False) w1 W2 := c01.comp (Chg.of_up (X := (· = w1.heap.size)) u2 rfl) fun x hx e => by
        have : x = w1.heap.size := e
        omega
      have rp2 : Row W2 w1.heap.size 65 64 (fun i' => (pairC (rs i).1 (rs j).1).getD i' undef) := by
        refine r2.ext fun x hx => ?_
        have hx' : x < 64 := hx
        rw [if_pos (by rw [pairC_len]; omega)]
        rfl
      have hRx : ∀ w', Chg (fun _ => False) w1 w' → Routes w' bR n rs := fun w' h => Row.chg hR1 h id
      refine wp_seq ?_
      refine drawn_ph [.slice (some ⟨bR, 0, none⟩) n n, .int .i64 i, .pointer (some ⟨bR, 0 + i * 36, none⟩), .pointer (some ⟨bR, 0 + i * 36, none⟩), keyV (rs i).1, .slice (some ⟨bR, 0, none⟩) n n, .int .i64 j, .pointer (some ⟨bR, 0 + j * 36, none⟩), .pointer (some ⟨bR, 0 + j * 36, none⟩), keyV (rs j).1, pairV (rs i).1 (rs j).1, .pointer (some ⟨w1.heap.size, 0, none⟩), undef] [11, 12]
        (fun q w' => Routes w' bR n rs ∧ ([w1.drew, W1, W2] : List World)[q]? = some w') hA mixed (by kernel_rfl) (by kernel_rfl) rfl ⟨hRx _ (Chg.refl _ w1).drew, rfl⟩ ?_ ?_
      · refine each_cons (dp0 rfl rfl [] rfl (wn rfl) fun q w hS => (x_mv rfl)) ?_
        refine each_cons (dp0 rfl rfl [] rfl (wn rfl) fun q w hS => (x_mv rfl)) ?_
        refine each_cons (dp0 rfl rfl [(440, 0), (441, 1)] rfl (wn rfl) fun q w hS => (x_idx rfl rfl (idxS _ _ _ _ _ _ Yba.underlying53 sz55 hin))) ?_
        refine each_cons (dp0 rfl rfl [(442, 2)] rfl (wn rfl) fun q w hS => (x_fld rfl (fld55_0 _ _ _))) ?_
        refine each_cons (dp0 rfl rfl [(443, 3)] rfl (wn rfl) fun q w hS => (x_load rfl (hS.1.key hin))) ?_
        refine each_cons (dp0 rfl rfl [] rfl (wn rfl) fun q w hS => (x_mv rfl)) ?_
        refine each_cons (dp0 rfl rfl [] rfl (wn rfl) fun q w hS => (x_mv rfl)) ?_
        refine each_cons (dp0 rfl rfl [(445, 5), (446, 6)] rfl (wn rfl) fun q w hS => (x_idx rfl rfl (idxS _ _ _ _ _ _ Yba.underlying53 sz55 hjn))) ?_
        refine each_cons (dp0 rfl rfl [(447, 7)] rfl (wn rfl) fun q w hS => (x_fld rfl (fld55_0 _ _ _))) ?_
        refine each_cons (dp0 rfl rfl [(448, 8)] rfl (wn rfl) fun q w hS => (x_load rfl (hS.1.key hjn))) ?_
        refine each_cons (dp0 rfl rfl [(444, 4), (449, 9)] rfl (wn rfl) fun q w hS => (x_build rfl (build65 _ _ _))) ?_
        refine each_cons (dp1 rfl rfl [] rfl (wn rfl) fun w hS => (x_alloc ⟨W1, by obtain rfl := Option.some.inj hS.2; exact hr1, hRx _ c01, rfl⟩)) ?_
        refine each_cons (dp1 rfl rfl [(60, 11), (450, 10)] rfl (wn rfl) fun w hS => (x_store rfl rfl ⟨W2, by obtain rfl := Option.some.inj hS.2; exact hr2, hRx _ hC2, rfl⟩)) ?_
        exact each_nil
      rintro a w2 hA ⟨_, e2⟩
      obtain rfl := Option.some.inj e2
      refine n_th ?_
      have hA : At a 499 [(3, .bool whole), (21, .int .i64 (n : Int)), (22, .int .u16 fr), (26, .pointer (some ⟨bL, 0, none⟩)), (36, .slice (some ⟨bR, 0, none⟩) n n), (43, .slice (some ⟨bk, ok, none⟩) kept.length kc), (50, .slice (some ⟨bV, 0, none⟩) n n), (53, pv), (54, .int .i64 (k : Int)), (60, .pointer (some ⟨w1.heap.size, 0, none⟩))] := hA.pick [3, 21, 22, 26, 36, 43, 50, 53, 54, 60]
      generalize hb60 : w1.heap.size = b60 at *
      obtain ⟨qv, cv, rfl⟩ := owns_slice hown
      refine sq ?_
      refine st0 hA (wn rfl) rfl rfl (x_as rfl) fun a hA => ?_
      refine fin ?_
      have hown2 := owns_keep hown hC2 fun _ _ => id
      refine cut (fun a' w' => At a' 499 [(3, .bool whole), (21, .int .i64 (n : Int)), (22, .int .u16 fr), (26, .pointer (some ⟨bL, 0, none⟩)), (36, .slice (some ⟨bR, 0, none⟩) n n), (43, .slice (some ⟨bk, ok, none⟩) kept.length kc), (50, .slice (some ⟨bV, 0, none⟩) n n), (53, .slice qv ps.length cv), (54, .int .i64 (k : Int)), (60, .pointer (some ⟨b60, 0, none⟩)), (61, .bool (decide (((rs i).1, (rs j).1) ∈ ps)))] ∧ Chg (fun _ => False) W2 w') ?_ ?_
      · refine sq ?_
        refine st0 hA (wn rfl) rfl rfl (x_mv rfl) fun a hA => ?_
        refine st0 hA (wn rfl) rfl rfl (x_len rfl Yba.underlying64) fun a hA => ?_
        refine st0 hA (wn rfl) rfl rfl (x_mv rfl) fun a hA => ?_
        refine fin ?_
        refine lpb (fun m' a' w' => ∃ t : Nat, t + m' = ps.length ∧ At a' 499 [(3, .bool whole), (21, .int .i64 (n : Int)), (22, .int .u16 fr), (26, .pointer (some ⟨bL, 0, none⟩)), (36, .slice (some ⟨bR, 0, none⟩) n n), (43, .slice (some ⟨bk, ok, none⟩) kept.length kc), (50, .slice (some ⟨bV, 0, none⟩) n n), (53, .slice qv ps.length cv), (54, .int .i64 (k : Int)), (60, .pointer (some ⟨b60, 0, none⟩)), (61, .bool false), (451, .slice qv ps.length cv), (452, .int .i64 (ps.length : Int)), (453, .int .i64 (t : Int))] ∧ Chg (fun _ => False) W2 w' ∧ ∀ x q, x < t → ps[x]? = some q → q ≠ ((rs i).1, (rs j).1)) ps.length ⟨0, by omega, hA.pick [3, 21, 22, 26, 36, 43, 50, 53, 54, 60, 61, 451, 452, 453], Chg.refl _ _, fun x q h => by omega⟩ ?_
        rintro m' a w3 ⟨t, ht, hA, hc3, hno⟩
        by_cases hlt2 : t < ps.length
        case neg =>
          refine sq ?_
          refine st0 hA (wn rfl) rfl rfl (x_bin rfl rfl (lss3F _ _ _ _ (by omega))) fun a hA => ?_
          refine fin ?_
          refine sqfe hA rfl (x_th (xin (n_th ⟨?_, hc3⟩)))
          have : ((rs i).1, (rs j).1) ∉ ps := fun hm => by
            obtain ⟨x, hx⟩ := List.getElem?_of_mem hm
            exact hno x _ (by have := (List.getElem?_eq_some_iff.1 hx).1; omega) hx rfl
          rw [decide_eq_false this]
          exact hA.pick [3, 21, 22, 26, 36, 43, 50, 53, 54, 60, 61]
        have hown3 := owns_keep hown2 hc3 fun _ _ => id
        obtain ⟨q, hq⟩ : ∃ q, ps[t]? = some q := ⟨_, List.getElem?_eq_getElem hlt2⟩
        obtain ⟨hq1, hq2⟩ := hle1 q (List.mem_of_getElem? hq)
        obtain ⟨g, cap, he, hload⟩ := own_pair hown3 rfl hq
        simp only [Value.slice.injEq] at he
        obtain ⟨rfl, _, rfl⟩ := he
        obtain ⟨w4, hr4, m4⟩ := mk_alloc _ al65 w3
        have hs4 : w4.heap.size = w3.heap.size + 1 := m4.2.1
        obtain ⟨w5, hr5, u5, r5⟩ := m4.row.store (ty := 65) (o := 0) (pairC q.1 q.2) (by rw [pairC_len]; exact info65) (pairC_one _ _) (by rw [pairC_len]; exact Nat.le_refl _)
        have c35 : Chg (fun _ => False) w3 w5 := (Chg.F m4.1).comp (Chg.of_up (X := (· = w3.heap.size)) u5 rfl) fun x hx e => by
          have : x = w3.heap.size := e
          omega
        have rp5 : Row w5 w3.heap.size 65 64 (fun i' => (pairC q.1 q.2).getD i' undef) := by
          refine r5.ext fun x hx => ?_
          have hx' : x < 64 := hx
          rw [if_pos (by rw [pairC_len]; omega)]
          rfl
        have rp60 := (rp2.chg hc3 id).chg c35 id
        refine sq ?_
        refine st0 hA (wn rfl) rfl rfl (x_bin rfl rfl (lss3T _ _ _ _ (by omega))) fun a hA => ?_
        refine fin ?_
        refine sqts hA rfl ?_
        refine sqb ?_
        refine sq ?_
        refine st0 hA (wn rfl) rfl rfl (x_idx rfl rfl (idxS _ _ _ _ _ _ Yba.underlying64 sz65 hlt2)) fun a hA => ?_
        refine st0 hA (wn rfl) rfl rfl (x_load rfl hload) fun a hA => ?_
        refine st hA (wn rfl) rfl rfl (x_alloc ⟨w4, hr4, rfl⟩) fun a w4' hA e => ?_
        subst e
        refine stn hA (wn rfl) rfl (x_store rfl rfl ⟨w5, hr5, rfl⟩) fun w5' e => ?_
        subst e
        refine fin ?_
        refine sq ?_
        refine st0 hA (wn rfl) rfl rfl (x_load rfl (row_pair rp5)) fun a hA => ?_
        refine st0 hA (wn rfl) rfl rfl (x_load rfl (row_pair rp60)) fun a hA => ?_
        by_cases hqe : (q.1, q.2) = ((rs i).1, (rs j).1)
        · refine st0 hA (wn rfl) rfl rfl (x_bin rfl rfl (by have := eql65 (.tmp 457) (.tmp 458) hq1 hq2 hki hkj; rw [decide_eq_true hqe] at this; exact this)) fun a hA => ?_
          refine fin ?_
          refine cdt hA rfl ?_
          refine sq ?_
          refine st0 hA (wn rfl) rfl rfl (x_as rfl) fun a hA => ?_
          refine fin ?_
          refine wp_exit (xout (x_th (x_th (xin (n_th ⟨?_, hc3.trans c35⟩)))) rfl)
          have : ((rs i).1, (rs j).1) ∈ ps := by rw [← hqe]; exact List.mem_of_getElem? hq
          rw [decide_eq_true this]
          exact hA.pick [3, 21, 22, 26, 36, 43, 50, 53, 54, 60, 61]
        · refine st0 hA (wn rfl) rfl rfl (x_bin rfl rfl (by have := eql65 (.tmp 457) (.tmp 458) hq1 hq2 hki hkj; rw [decide_eq_false hqe] at this; exact this)) fun a hA => ?_
          refine fin ?_
          refine cdfz hA rfl (n_in (n_th ?_))
          refine rg ?_
          refine st0 hA (wn rfl) rfl rfl (x_bin rfl rfl (add3N _ _ _ (by omega))) fun a hA => ?_
          refine st0 hA (wn rfl) rfl rfl (x_mv rfl) fun a hA => ?_
          refine fin0 (n_th ⟨m' - 1, by omega, t + 1, by omega, hA.pick [3, 21, 22, 26, 36, 43, 50, 53, 54, 60, 61, 451, 452, 453], hc3.trans c35, fun x y hx hy => ?_⟩)
          by_cases e : x = t
          · subst e
            rw [hq] at hy
            obtain rfl := Option.some.inj hy
            exact hqe
          · exact hno x y (by omega) hy
      rintro a w6 ⟨hA, hc6⟩
      have hown6 := owns_keep hown2 hc6 fun _ _ => id
      have rp6 := rp2.chg hc6 id
      have hcw6 : Chg (fun _ => False) w w6 := (hc.trans hC2).trans hc6
      refine sq ?_
      refine st0 hA (wn rfl) rfl rfl (x_mv rfl) fun a hA => ?_
      refine st0 hA (wn rfl) rfl rfl (x_not rfl) fun a hA => ?_
      refine fin ?_
      by_cases hmem : ((rs i).1, (rs j).1) ∈ ps
      · rw [decide_eq_true hmem] at hA
        refine cdfz hA rfl (n_in (n_th (hback _ _ _ (hA.pick [3, 21, 22, 26, 36, 43, 50, 53, 54]) hcw6 ?_)))
        rw [hstep, if_neg (fun h => h.2 hmem)]
        exact hown6
      · rw [decide_eq_false hmem] at hA
        refine cdt hA rfl ?_
        obtain ⟨w7, hr7, m7⟩ := mk_bs64 (rs i).1 (rs j).1 w6
        have c67 := Chg.F m7.1
        have hown7 := owns_keep hown6 c67 fun _ _ => id
        have hsz7 : w.heap.size ≤ w7.heap.size := Nat.le_trans hcw6.size c67.size
        obtain ⟨pv', w8, hr8, hown8, c8⟩ := app1 (t := 64) (e := 65) Yba.underlying64 ti65 (by rw [show (pairV 0 0).cells.size = (pairC 0 0).length from rfl, pairC_len]) (by omega) hown7 m7 (pairC_len _ _) (pairC_one _ _) (by omega) (by omega) hsz7 64 #[false, false]
        refine rg ?_
        refine st0 hA (wn rfl) rfl rfl (x_mv rfl) fun a hA => ?_
        refine st0 hA (wn rfl) rfl rfl (x_load rfl (row_pair rp6)) fun a hA => ?_
        refine st hA (wn rfl) rfl rfl (x_bslice rfl ⟨w7, hr7, rfl⟩) fun a w7' hA e => ?_
        subst e
        refine st hA (wn rfl) rfl rfl (x_blt rfl ⟨w8, hr8, rfl⟩) fun a w8' hA e => ?_
        subst e
        refine st0 hA (wn rfl) rfl rfl (x_as rfl) fun a hA => ?_
        refine fin0 (n_in (n_th (hback _ _ pv' (hA.pick [3, 21, 22, 26, 36, 43, 50, 53, 54]) ((hcw6.trans c67).comp c8 fun x hx e => ?_) ?_)))
        · have := (owns_lt hown7 e.symm).1
          omega
        · rw [hstep, if_pos ⟨hspan, hmem⟩, pairsC_append, List.length_append]
          exact hown8
  rintro a w9 ⟨pv', hA, h1, h2⟩
  refine rg ?_
  refine st0 hA (wn rfl) rfl rfl (x_mv rfl) fun a hA => ?_
  refine st0 hA (wn rfl) rfl rfl (x_bin rfl rfl (add3N _ _ _ (by omega))) fun a hA => ?_
  refine st0 hA (wn rfl) rfl rfl (x_as rfl) fun a hA => ?_
  exact fin0 (n_th ⟨m - 1, by omega, k + 1, pv', by omega, hA.pick [3, 21, 22, 26, 36, 43, 50, 53, 54], h1, h2⟩)
end Go.Proofs.Ybulkcrtu
