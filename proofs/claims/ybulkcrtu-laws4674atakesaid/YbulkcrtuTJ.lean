import Derived.Test.YbulkcrtuTI
namespace Go.Proofs.Ybulkcrtu
open Go.RowKit Go.ChangeMaps Go.MapKept

theorem c11 : Callable 11 := ⟨_, Yba.func11, by kernel_rfl, rfl⟩
theorem any_own (os : List Bool) (n k : Nat) (whole : Bool) : (ownIdx os n).any (fun o => near (k : Int) o (n : Int) whole) = (List.range n).any fun (o : Nat) => os.getD o false && near (k : Int) (o : Int) (n : Int) whole := by
  unfold ownIdx
  rw [List.any_map, List.any_filter]
  rfl
theorem any_range_false {p : Nat → Bool} {n : Nat} (h : ∀ o, o < n → p o = false) : (List.range n).any p = false := by
  rw [List.any_eq_false]
  intro o ho
  rw [h o (List.mem_range.1 ho)]
  simp
theorem any_range_true {p : Nat → Bool} {n o : Nat} (ho : o < n) (h : p o = true) : (List.range n).any p = true := List.any_eq_true.2 ⟨o, List.mem_range.2 ho, h⟩
set_option maxRecDepth 100000 in
set_option maxHeartbeats 2000000 in
/-- The law's model of the vouched pairs. -/
theorem law4 (bL bR bOwn n nl : Nat) (p : LkP) (fr : Int) (whole : Bool) (rs : Nat → Nat × Nat) (os : List Bool) (vown : Value) (kept : List Nat) (kp : Option Addr) (kc : Nat) (R : Ending → World → Prop)
    (hn : n ≤ 300) (hol : os.length ≤ 9223372036854775807) (hrs : ∀ i, i < n → (rs i).1 ≤ 255) (hkn : ∀ i ∈ kept, i < n) (hkl : kept.length ≤ n)
    (a : Act) (w : World) (hA : At a 499 [(3, .bool whole), (14, .pointer (some ⟨bOwn, 0, none⟩)), (21, .int .i64 (n : Int)), (22, .int .u16 fr), (26, .pointer (some ⟨bL, 0, none⟩)), (36, .slice (some ⟨bR, 0, none⟩) n n), (43, .slice kp kept.length kc)]) (hL : Lk w bL p) (hRt : Routes w bR n rs) (hO : Row w bOwn 23 1 (fun _ => vown)) (hB : Bools w vown os) (hK : Ints w (.slice kp kept.length kc) (kept.map fun (x : Nat) => (x : Int)))
    (hM : LinkM w p.linked nl 0 (runL (vouchF os n whole) n whole kept (fun i => (rs i).1) kept.length) fr)
    (hR : ∀ w', Chg (fun _ => False) w w' → R (.returned (.bool true)) w') : (dropS 26 (Yba.f3.body.getD .skip)).wp Yba.prog (bodyPost Yba.prog Yba.f3 R) a w := by
  obtain ⟨w1, hr1, b1, hs1, r1⟩ := mk_slice (t := 23) (e := 4) Yba.underlying23 ti4 rfl (by omega) (by omega) (by omega) n (by omega) w
  refine sq ?_
  refine st0 hA (wn rfl) rfl rfl (x_mv rfl) fun a hA => ?_
  refine st hA (wn rfl) rfl rfl (x_mkslice rfl rfl ⟨w1, hr1, rfl⟩) fun a w1' hA e => ?_
  subst e
  refine st0 hA (wn rfl) rfl rfl (x_as rfl) fun a hA => ?_
  refine fin ?_
  have c1 : Chg (fun _ => False) w w1 := Chg.F b1
  have rv1 : Row w1 w.heap.size 4 n (fun i => .bool (if i < 0 then vouchF os n whole i else false)) := by
    rw [Nat.one_mul] at r1
    refine r1.ext fun i hi => ?_
    rw [if_neg (by omega), Nat.mod_one]
    rfl
  have hbvs : w.heap.size ≤ w.heap.size := Nat.le_refl _
  generalize hbV : w.heap.size = bV at rv1 hA hbvs
  refine wp_seq ?_
  refine sq ?_
  refine st0 hA (wn rfl) rfl rfl (x_as rfl) fun a hA => ?_
  refine fin ?_
  have hend : ∀ a w', At a 499 [(3, .bool whole), (14, .pointer (some ⟨bOwn, 0, none⟩)), (21, .int .i64 (n : Int)), (22, .int .u16 fr), (26, .pointer (some ⟨bL, 0, none⟩)), (36, .slice (some ⟨bR, 0, none⟩) n n), (43, .slice kp kept.length kc), (50, .slice (some ⟨bV, 0, none⟩) n n)] → Chg (fun _ => False) w w' → Row w' bV 4 n (fun i => .bool (vouchF os n whole i)) → (dropS 28 (Yba.f3.body.getD .skip)).wp Yba.prog (bodyPost Yba.prog Yba.f3 R) a w' := fun a w' h1 h2 h3 =>
    law5 bL bR bV n nl p fr whole rs (vouchF os n whole) kept kp kc R hn hrs hkn hkl a w' (h1.pick [3, 21, 22, 26, 36, 43, 50]) (Row.chg hL h2 id) (Row.chg hRt h2 id) h3 (hK.chgF h2) (hM.chg h2) fun w'' h4 => hR w'' (h2.trans h4)
  refine lpb (fun m a w' => ∃ k : Nat, k + m = n ∧ At a 499 [(3, .bool whole), (14, .pointer (some ⟨bOwn, 0, none⟩)), (21, .int .i64 (n : Int)), (22, .int .u16 fr), (26, .pointer (some ⟨bL, 0, none⟩)), (36, .slice (some ⟨bR, 0, none⟩) n n), (43, .slice kp kept.length kc), (50, .slice (some ⟨bV, 0, none⟩) n n), (51, .int .i64 (k : Int))] ∧ Chg (fun _ => False) w w' ∧ Row w' bV 4 n (fun i => .bool (if i < k then vouchF os n whole i else false))) n ⟨0, by omega, hA.pick [3, 14, 21, 22, 26, 36, 43, 50, 51], c1, rv1⟩ ?_
  rintro m a w2 ⟨k, hkm, hA, hc2, rv2⟩
  have hO2 := hO.chg hc2 id
  have hB2 : Bools w2 vown os := hB.chg hc2 fun _ _ _ _ _ => id
  refine wp_seq ?_
  by_cases hlt : k < n
  case neg =>
    refine sq ?_
    refine st0 hA (wn rfl) rfl rfl (x_mv rfl) fun a hA => ?_
    refine st0 hA (wn rfl) rfl rfl (x_mv rfl) fun a hA => ?_
    refine st0 hA (wn rfl) rfl rfl (x_bin rfl rfl (lss3F _ _ _ _ (by omega))) fun a hA => ?_
    refine fin ?_
    exact cdfe hA rfl (x_th (xin (n_th (hend _ _ (hA.pick [3, 14, 21, 22, 26, 36, 43, 50]) hc2 (rv2.ext fun i hi => by rw [if_pos (by omega)])))))
  refine sq ?_
  refine st0 hA (wn rfl) rfl rfl (x_mv rfl) fun a hA => ?_
  refine st0 hA (wn rfl) rfl rfl (x_mv rfl) fun a hA => ?_
  refine st0 hA (wn rfl) rfl rfl (x_bin rfl rfl (lss3T _ _ _ _ (by omega))) fun a hA => ?_
  refine fin ?_
  refine cdts hA rfl ?_
  refine cut (fun a' w' => At a' 499 [(3, .bool whole), (14, .pointer (some ⟨bOwn, 0, none⟩)), (21, .int .i64 (n : Int)), (22, .int .u16 fr), (26, .pointer (some ⟨bL, 0, none⟩)), (36, .slice (some ⟨bR, 0, none⟩) n n), (43, .slice kp kept.length kc), (50, .slice (some ⟨bV, 0, none⟩) n n), (51, .int .i64 (k : Int))] ∧ Chg (fun _ => False) w w' ∧ Row w' bV 4 n (fun i => .bool (if i < k + 1 then vouchF os n whole i else false))) ?_ ?_
  · refine wp_block ?_
    have hsame : vouchF os n whole k = false → Row w2 bV 4 n (fun i => .bool (if i < k + 1 then vouchF os n whole i else false)) := fun hv => rv2.ext fun i hi => by
      by_cases e : i < k
      · rw [if_pos e, if_pos (by omega)]
      · rw [if_neg e]
        by_cases e2 : i = k
        · rw [if_pos (by omega), e2, hv]
        · rw [if_neg (by omega)]
    refine cut (fun a' w' => (At a' 499 [(3, .bool whole), (14, .pointer (some ⟨bOwn, 0, none⟩)), (21, .int .i64 (n : Int)), (22, .int .u16 fr), (26, .pointer (some ⟨bL, 0, none⟩)), (36, .slice (some ⟨bR, 0, none⟩) n n), (43, .slice kp kept.length kc), (50, .slice (some ⟨bV, 0, none⟩) n n), (51, .int .i64 (k : Int))] ∧ w2 = w') ∧ ¬ (k + 1 = n ∧ whole = false)) ?_ ?_
    · refine sq ?_
      refine st0 hA (wn rfl) rfl rfl (x_mv rfl) fun a hA => ?_
      refine st0 hA (wn rfl) rfl rfl (x_mv rfl) fun a hA => ?_
      refine st0 hA (wn rfl) rfl rfl (x_bin rfl rfl (sub3 _ _ _ _ (by omega) (by omega))) fun a hA => ?_
      by_cases hb1 : k + 1 = n
      · refine st0 hA (wn rfl) rfl rfl (x_bin rfl rfl (eql3T _ _ _ _ (by omega))) fun a hA => ?_
        refine st0 hA (wn rfl) rfl rfl (x_mv rfl) fun a hA => ?_
        refine st0 hA (wy rfl rfl rfl) rfl rfl (x_mv rfl) fun a hA => ?_
        refine st0 hA (wy rfl rfl rfl) rfl rfl (x_not rfl) fun a hA => ?_
        cases whole with
        | false =>
          refine st0 hA (wn rfl) rfl rfl (x_pick rfl rfl) fun a hA => ?_
          refine fin ?_
          refine cdte hA rfl (xin (n_th ⟨hA.pick [3, 14, 21, 22, 26, 36, 43, 50, 51], hc2, hsame ?_⟩))
          unfold vouchF
          rw [decide_eq_true hb1]
          simp
        | true =>
          refine st0 hA (wn rfl) rfl rfl (x_pick rfl rfl) fun a hA => ?_
          refine fin ?_
          exact cdfs hA rfl ⟨⟨hA.pick [3, 14, 21, 22, 26, 36, 43, 50, 51], rfl⟩, by simp⟩
      · refine st0 hA (wn rfl) rfl rfl (x_bin rfl rfl (eql3F _ _ _ _ (by omega))) fun a hA => ?_
        refine st0 hA (wn rfl) rfl rfl (x_mv rfl) fun a hA => ?_
        refine sts hA (sh rfl rfl rfl rfl) rfl rfl fun a hA => ?_
        refine sts hA (sh rfl rfl rfl rfl) rfl rfl fun a hA => ?_
        refine st0 hA (wn rfl) rfl rfl (x_pick rfl rfl) fun a hA => ?_
        refine fin ?_
        exact cdfs hA rfl ⟨⟨hA.pick [3, 14, 21, 22, 26, 36, 43, 50, 51], rfl⟩, fun h => hb1 h.1⟩
    rintro a _ ⟨⟨hA, rfl⟩, hnb⟩
    have hvf : vouchF os n whole k = (List.range n).any fun (o : Nat) => os.getD o false && near (k : Int) (o : Int) (n : Int) whole := by
      rw [← any_own]
      unfold vouchF
      have : (decide (k + 1 = n) && !whole) = false := by
        by_cases h1 : k + 1 = n
        · cases whole with
          | false => exact absurd ⟨h1, rfl⟩ hnb
          | true => simp
        · simp [h1]
      rw [this]
      simp
    refine sq ?_
    refine st0 hA (wn rfl) rfl rfl (x_as rfl) fun a hA => ?_
    refine fin ?_
    refine lpb (fun m' a' w' => ∃ o : Nat, o + m' = n ∧ At a' 499 [(3, .bool whole), (14, .pointer (some ⟨bOwn, 0, none⟩)), (21, .int .i64 (n : Int)), (22, .int .u16 fr), (26, .pointer (some ⟨bL, 0, none⟩)), (36, .slice (some ⟨bR, 0, none⟩) n n), (43, .slice kp kept.length kc), (50, .slice (some ⟨bV, 0, none⟩) n n), (51, .int .i64 (k : Int)), (52, .int .i64 (o : Int))] ∧ w2 = w' ∧ ∀ x, x < o → (os.getD x false && near (k : Int) (x : Int) (n : Int) whole) = false) n ⟨0, by omega, hA.pick [3, 14, 21, 22, 26, 36, 43, 50, 51, 52], rfl, fun x h => by omega⟩ ?_
    rintro m' a _ ⟨o, hom, hA, rfl, hno⟩
    refine wp_seq ?_
    by_cases hlo : o < n
    case neg =>
      refine sq ?_
      refine st0 hA (wn rfl) rfl rfl (x_mv rfl) fun a hA => ?_
      refine st0 hA (wn rfl) rfl rfl (x_mv rfl) fun a hA => ?_
      refine st0 hA (wn rfl) rfl rfl (x_bin rfl rfl (lss3F _ _ _ _ (by omega))) fun a hA => ?_
      refine fin ?_
      refine cdfe hA rfl (x_th (xin (n_in (n_th ⟨hA.pick [3, 14, 21, 22, 26, 36, 43, 50, 51], hc2, hsame ?_⟩))))
      rw [hvf]
      exact any_range_false fun x hx => hno x (by omega)
    refine sq ?_
    refine st0 hA (wn rfl) rfl rfl (x_mv rfl) fun a hA => ?_
    refine st0 hA (wn rfl) rfl rfl (x_mv rfl) fun a hA => ?_
    refine st0 hA (wn rfl) rfl rfl (x_bin rfl rfl (lss3T _ _ _ _ (by omega))) fun a hA => ?_
    refine fin ?_
    refine cdts hA rfl ?_
    obtain ⟨q, cq, rfl, hcell⟩ := id hB2
    have hm1 : (0 : Int) ≤ (((k + 1) % n : Nat) : Int) ∧ (((k + 1) % n : Nat) : Int) ≤ 1000 := by have := Nat.mod_lt (k + 1) (show 0 < n by omega); omega
    refine cut (fun a' w' => (At a' 499 [(3, .bool whole), (14, .pointer (some ⟨bOwn, 0, none⟩)), (21, .int .i64 (n : Int)), (22, .int .u16 fr), (26, .pointer (some ⟨bL, 0, none⟩)), (36, .slice (some ⟨bR, 0, none⟩) n n), (43, .slice kp kept.length kc), (50, .slice (some ⟨bV, 0, none⟩) n n), (51, .int .i64 (k : Int)), (52, .int .i64 (o : Int))] ∧ (os.getD o false && near (k : Int) (o : Int) (n : Int) whole) = false) ∧ w2 = w') ?_ ?_
    · refine wp_block ?_
      refine cut (fun a' w' => At a' 499 [(3, .bool whole), (14, .pointer (some ⟨bOwn, 0, none⟩)), (21, .int .i64 (n : Int)), (22, .int .u16 fr), (26, .pointer (some ⟨bL, 0, none⟩)), (36, .slice (some ⟨bR, 0, none⟩) n n), (43, .slice kp kept.length kc), (50, .slice (some ⟨bV, 0, none⟩) n n), (51, .int .i64 (k : Int)), (52, .int .i64 (o : Int)), (389, .bool (os.getD o false && near (k : Int) (o : Int) (n : Int) whole))] ∧ w2 = w') ?_ ?_
      · refine rg ?_
        refine st0 hA (wn rfl) rfl rfl (x_mv rfl) fun a hA => ?_
        refine st0 hA (wn rfl) rfl rfl (x_load rfl (hO2.load1 ag23 (by omega))) fun a hA => ?_
        refine st0 hA (wn rfl) rfl rfl (x_len rfl Yba.underlying23) fun a hA => ?_
        by_cases hol2 : o < os.length
        · obtain ⟨x, hx⟩ : ∃ x, os[o]? = some x := ⟨_, List.getElem?_eq_getElem hol2⟩
          obtain ⟨bo, oo, rfl, hcb⟩ := hcell o x hx
          have hgx : os.getD o false = x := by rw [List.getD_eq_getElem?_getD, hx]; rfl
          rw [hgx]
          refine st0 hA (wn rfl) rfl rfl (x_bin rfl rfl (lss3T _ _ _ _ (by omega))) fun a hA => ?_
          refine st0 hA (wn rfl) rfl rfl (x_mv rfl) fun a hA => ?_
          refine st0 hA (wy rfl rfl rfl) rfl rfl (x_load rfl (hO2.load1 ag23 (by omega))) fun a hA => ?_
          refine st0 hA (wy rfl rfl rfl) rfl rfl (x_mv rfl) fun a hA => ?_
          refine st0 hA (wy rfl rfl rfl) rfl rfl (x_idx rfl rfl (idxS _ _ _ _ _ _ Yba.underlying23 sz4 hol2)) fun a hA => ?_
          refine st0 hA (wy rfl rfl rfl) rfl rfl (x_load rfl (load_cell ag4 _ _ _ (by rw [Nat.mul_one]; exact hcb))) fun a hA => ?_
          cases x with
          | false =>
            refine st0 hA (wn rfl) rfl rfl (x_pick rfl rfl) fun a hA => ?_
            refine st0 hA (wn rfl) rfl rfl (x_mv rfl) fun a hA => ?_
            refine sts hA (sh rfl rfl rfl rfl) rfl rfl fun a hA => ?_
            refine sts hA (sh rfl rfl rfl rfl) rfl rfl fun a hA => ?_
            refine sts hA (sh rfl rfl rfl rfl) rfl rfl fun a hA => ?_
            refine sts hA (sh rfl rfl rfl rfl) rfl rfl fun a hA => ?_
            refine sts hA (sh rfl rfl rfl rfl) rfl rfl fun a hA => ?_
            refine sts hA (sh rfl rfl rfl rfl) rfl rfl fun a hA => ?_
            refine st0 hA (wn rfl) rfl rfl (x_pick rfl rfl) fun a hA => ?_
            refine st0 hA (wn rfl) rfl rfl (x_mv rfl) fun a hA => ?_
            refine sts hA (sh rfl rfl rfl rfl) rfl rfl fun a hA => ?_
            refine sts hA (sh rfl rfl rfl rfl) rfl rfl fun a hA => ?_
            refine sts hA (sh rfl rfl rfl rfl) rfl rfl fun a hA => ?_
            refine sts hA (sh rfl rfl rfl rfl) rfl rfl fun a hA => ?_
            refine sts hA (sh rfl rfl rfl rfl) rfl rfl fun a hA => ?_
            refine sts hA (sh rfl rfl rfl rfl) rfl rfl fun a hA => ?_
            refine sts hA (sh rfl rfl rfl rfl) rfl rfl fun a hA => ?_
            refine sts hA (sh rfl rfl rfl rfl) rfl rfl fun a hA => ?_
            refine sts hA (sh rfl rfl rfl rfl) rfl rfl fun a hA => ?_
            refine st0 hA (wn rfl) rfl rfl (x_pick rfl rfl) fun a hA => ?_
            refine fin0 ?_
            exact n_th ⟨hA.pick [3, 14, 21, 22, 26, 36, 43, 50, 51, 52, 389], rfl⟩
          | true =>
            refine st0 hA (wn rfl) rfl rfl (x_pick rfl rfl) fun a hA => ?_
            refine st0 hA (wn rfl) rfl rfl (x_mv rfl) fun a hA => ?_
            refine st0 hA (wy rfl rfl rfl) rfl rfl (x_mv rfl) fun a hA => ?_
            refine st0 hA (wy rfl rfl rfl) rfl rfl (x_mv rfl) fun a hA => ?_
            refine st0 hA (wy rfl rfl rfl) rfl rfl (x_mv rfl) fun a hA => ?_
            refine st0 hA (wy rfl rfl rfl) rfl rfl (x_mv rfl) fun a hA => ?_
            refine st0 hA (wy rfl rfl rfl) rfl rfl (x_call (cap := []) rfl rfl c11 (cd_any (k : Int) (o : Int) (n : Int) whole w2 (by omega) (by omega) (by omega))) fun a hA => ?_
            by_cases hs1' : stepsf (k : Int) (o : Int) (n : Int) whole ≤ 2
            · refine st0 hA (wy rfl rfl rfl) rfl rfl (x_bin rfl rfl (leq3T _ _ _ _ hs1')) fun a hA => ?_
              refine st0 hA (wn rfl) rfl rfl (x_pick rfl rfl) fun a hA => ?_
              refine st0 hA (wn rfl) rfl rfl (x_mv rfl) fun a hA => ?_
              refine st0 hA (wy rfl rfl rfl) rfl rfl (x_mv rfl) fun a hA => ?_
              refine st0 hA (wy rfl rfl rfl) rfl rfl (x_bin rfl rfl (add3N _ _ _ (by omega))) fun a hA => ?_
              refine st0 hA (wy rfl rfl rfl) rfl rfl (x_mv rfl) fun a hA => ?_
              refine st0 hA (wy rfl rfl rfl) rfl rfl (x_bin rfl rfl (rem3N _ _ _ _ (by omega))) fun a hA => ?_
              refine st0 hA (wy rfl rfl rfl) rfl rfl (x_mv rfl) fun a hA => ?_
              refine st0 hA (wy rfl rfl rfl) rfl rfl (x_mv rfl) fun a hA => ?_
              refine st0 hA (wy rfl rfl rfl) rfl rfl (x_mv rfl) fun a hA => ?_
              refine st0 hA (wy rfl rfl rfl) rfl rfl (x_call (cap := []) rfl rfl c11 (cd_any (((k + 1) % n : Nat) : Int) (o : Int) (n : Int) whole w2 (by omega) (by omega) (by omega))) fun a hA => ?_
              refine st0 hA (wy rfl rfl rfl) rfl rfl (x_bin rfl rfl (leq3 _ _ _ _)) fun a hA => ?_
              refine st0 hA (wn rfl) rfl rfl (x_pick rfl rfl) fun a hA => ?_
              refine fin0 (n_th ⟨?_, rfl⟩)
              have : (true && near (k : Int) (o : Int) (n : Int) whole) = decide (stepsf (((k + 1) % n : Nat) : Int) (o : Int) (n : Int) whole ≤ 2) := by
                unfold near
                rw [decide_eq_true hs1', Bool.true_and, Bool.true_and]
                rfl
              rw [this]
              exact hA.pick [3, 14, 21, 22, 26, 36, 43, 50, 51, 52, 389]
            · refine st0 hA (wy rfl rfl rfl) rfl rfl (x_bin rfl rfl (leq3F _ _ _ _ hs1')) fun a hA => ?_
              refine st0 hA (wn rfl) rfl rfl (x_pick rfl rfl) fun a hA => ?_
              refine st0 hA (wn rfl) rfl rfl (x_mv rfl) fun a hA => ?_
              refine sts hA (sh rfl rfl rfl rfl) rfl rfl fun a hA => ?_
              refine sts hA (sh rfl rfl rfl rfl) rfl rfl fun a hA => ?_
              refine sts hA (sh rfl rfl rfl rfl) rfl rfl fun a hA => ?_
              refine sts hA (sh rfl rfl rfl rfl) rfl rfl fun a hA => ?_
              refine sts hA (sh rfl rfl rfl rfl) rfl rfl fun a hA => ?_
              refine sts hA (sh rfl rfl rfl rfl) rfl rfl fun a hA => ?_
              refine sts hA (sh rfl rfl rfl rfl) rfl rfl fun a hA => ?_
              refine sts hA (sh rfl rfl rfl rfl) rfl rfl fun a hA => ?_
              refine sts hA (sh rfl rfl rfl rfl) rfl rfl fun a hA => ?_
              refine st0 hA (wn rfl) rfl rfl (x_pick rfl rfl) fun a hA => ?_
              refine fin0 (n_th ⟨?_, rfl⟩)
              have : (true && near (k : Int) (o : Int) (n : Int) whole) = false := by
                unfold near
                rw [decide_eq_false hs1', Bool.false_and, Bool.and_false]
              rw [this]
              exact hA.pick [3, 14, 21, 22, 26, 36, 43, 50, 51, 52, 389]
        · have hgx : os.getD o false = false := by rw [List.getD_eq_getElem?_getD, List.getElem?_eq_none (by omega)]; rfl
          rw [hgx]
          refine st0 hA (wn rfl) rfl rfl (x_bin rfl rfl (lss3F _ _ _ _ (by omega))) fun a hA => ?_
          refine st0 hA (wn rfl) rfl rfl (x_mv rfl) fun a hA => ?_
          refine sts hA (sh rfl rfl rfl rfl) rfl rfl fun a hA => ?_
          refine sts hA (sh rfl rfl rfl rfl) rfl rfl fun a hA => ?_
          refine sts hA (sh rfl rfl rfl rfl) rfl rfl fun a hA => ?_
          refine sts hA (sh rfl rfl rfl rfl) rfl rfl fun a hA => ?_
          refine st0 hA (wn rfl) rfl rfl (x_pick rfl rfl) fun a hA => ?_
          refine st0 hA (wn rfl) rfl rfl (x_mv rfl) fun a hA => ?_
          refine sts hA (sh rfl rfl rfl rfl) rfl rfl fun a hA => ?_
          refine sts hA (sh rfl rfl rfl rfl) rfl rfl fun a hA => ?_
          refine sts hA (sh rfl rfl rfl rfl) rfl rfl fun a hA => ?_
          refine sts hA (sh rfl rfl rfl rfl) rfl rfl fun a hA => ?_
          refine sts hA (sh rfl rfl rfl rfl) rfl rfl fun a hA => ?_
          refine sts hA (sh rfl rfl rfl rfl) rfl rfl fun a hA => ?_
          refine st0 hA (wn rfl) rfl rfl (x_pick rfl rfl) fun a hA => ?_
          refine st0 hA (wn rfl) rfl rfl (x_mv rfl) fun a hA => ?_
          refine sts hA (sh rfl rfl rfl rfl) rfl rfl fun a hA => ?_
          refine sts hA (sh rfl rfl rfl rfl) rfl rfl fun a hA => ?_
          refine sts hA (sh rfl rfl rfl rfl) rfl rfl fun a hA => ?_
          refine sts hA (sh rfl rfl rfl rfl) rfl rfl fun a hA => ?_
          refine sts hA (sh rfl rfl rfl rfl) rfl rfl fun a hA => ?_
          refine sts hA (sh rfl rfl rfl rfl) rfl rfl fun a hA => ?_
          refine sts hA (sh rfl rfl rfl rfl) rfl rfl fun a hA => ?_
          refine sts hA (sh rfl rfl rfl rfl) rfl rfl fun a hA => ?_
          refine sts hA (sh rfl rfl rfl rfl) rfl rfl fun a hA => ?_
          refine st0 hA (wn rfl) rfl rfl (x_pick rfl rfl) fun a hA => ?_
          refine fin0 ?_
          exact n_th ⟨hA.pick [3, 14, 21, 22, 26, 36, 43, 50, 51, 52, 389], rfl⟩
      rintro a _ ⟨hA, rfl⟩
      cases hres : (os.getD o false && near (k : Int) (o : Int) (n : Int) whole) with
      | false =>
        rw [hres] at hA
        exact cdfz hA rfl (n_in (n_th ⟨⟨hA.pick [3, 14, 21, 22, 26, 36, 43, 50, 51, 52], rfl⟩, rfl⟩))
      | true =>
        rw [hres] at hA
        refine cdt hA rfl ?_
        obtain ⟨w3, hr3, u3, rv3⟩ := rv2.store1 (ty := 4) (o := 0 + k * 1) (.bool true) sz4 rfl (by omega)
        refine sq ?_
        refine st0 hA (wn rfl) rfl rfl (x_mv rfl) fun a hA => ?_
        refine st0 hA (wn rfl) rfl rfl (x_mv rfl) fun a hA => ?_
        refine st0 hA (wn rfl) rfl rfl (x_idx rfl rfl (idxS _ _ _ _ _ _ Yba.underlying23 sz4 hlt)) fun a hA => ?_
        refine stn hA (wn rfl) rfl (x_store rfl rfl ⟨w3, hr3, rfl⟩) fun w3' e => ?_
        subst e
        refine fin ?_
        have cw3 : Chg (fun _ => False) w w3 := hc2.comp (Chg.of_up (X := (· = bV)) u3 rfl) fun x hx e => by
          have : x = bV := e
          omega
        refine wp_exit (xout (x_th (x_th (xin (n_in (n_th ⟨hA.pick [3, 14, 21, 22, 26, 36, 43, 50, 51], cw3, rv3.ext fun i hi => ?_⟩))))) rfl)
        by_cases e : i = 0 + k * 1
        · rw [if_pos e, if_pos (by omega)]
          have hik : i = k := by omega
          rw [hik, hvf, any_range_true hlo hres]
        · rw [if_neg e]
          by_cases e2 : i < k
          · rw [if_pos e2, if_pos (by omega)]
          · rw [if_neg e2, if_neg (by omega)]
    rintro a _ ⟨⟨hA, hres⟩, rfl⟩
    refine rg ?_
    refine st0 hA (wn rfl) rfl rfl (x_mv rfl) fun a hA => ?_
    refine st0 hA (wn rfl) rfl rfl (x_bin rfl rfl (add3N _ _ _ (by omega))) fun a hA => ?_
    refine st0 hA (wn rfl) rfl rfl (x_as rfl) fun a hA => ?_
    refine fin0 (n_th ⟨m' - 1, by omega, o + 1, by omega, hA.pick [3, 14, 21, 22, 26, 36, 43, 50, 51, 52], rfl, fun x hx => ?_⟩)
    by_cases e : x = o
    · rw [e]; exact hres
    · exact hno x (by omega)
  rintro a w4 ⟨hA, hc4, rv4⟩
  refine rg ?_
  refine st0 hA (wn rfl) rfl rfl (x_mv rfl) fun a hA => ?_
  refine st0 hA (wn rfl) rfl rfl (x_bin rfl rfl (add3N _ _ _ (by omega))) fun a hA => ?_
  refine st0 hA (wn rfl) rfl rfl (x_as rfl) fun a hA => ?_
  exact fin0 (n_th ⟨m - 1, by omega, k + 1, by omega, hA.pick [3, 14, 21, 22, 26, 36, 43, 50, 51], hc4, rv4⟩)
end Go.Proofs.Ybulkcrtu
