import Derived.Test.YbulkcrtuTM
namespace Go.Proofs.Ybulkcrtu
open Go.RowKit Go.ChangeMaps Go.MapKept

theorem build55 (k : Nat) (p : Int) (w : World) : (Instr.build 55 #[(0, keyV k), (1, apV p)]).run Yba.prog w = .ok (routeV k p) w := by kernel_rfl
theorem below_next (d : Nat → Bool) (q : Nat) (hd : d q = false) : below d (q + 1) = below d q := by
  funext j
  unfold below
  by_cases e : j = q
  · rw [e, hd, Bool.false_and, Bool.false_and]
  · have : decide (j < q + 1) = decide (j < q) := by
      by_cases h : j < q
      · rw [decide_eq_true h, decide_eq_true (by omega)]
      · rw [decide_eq_false h, decide_eq_false (by omega)]
    rw [this]
theorem psD_below (d : Nat → Bool) : psD (below d 5) = psD d := by
  unfold psD below
  simp
theorem psD_one (d : Nat → Bool) : psD (below d 1) = [] := by
  unfold psD below
  simp [psOf]
set_option maxRecDepth 100000 in
set_option maxHeartbeats 2000000 in
/-- The dead, the routes, and what follows. -/
theorem law1 (bL bOwn bD bmk bmb bmu n nl N B0 : Nat) (p : LkP) (fr : Int) (whole plc : Bool) (rv : Value) (raw : Nat → Nat × Nat) (d : Nat → Bool) (os : List Bool) (vown : Value) (s : TS) (R : Ending → World → Prop)
    (hn : n ≤ 300) (hnl : nl ≤ 600) (hN : N ≤ 400) (hlo : p.lo ≤ 255) (hwd : p.wd ≤ 255) (hraw : ∀ k, k < n → (raw k).1 ≤ 255 ∧ (raw k).2 ≤ 255) (hol : os.length ≤ 9223372036854775807) (hplc : plc = decide (p.purpose = 1)) (hself : 0 ≤ p.self ∧ p.self ≤ 9) (hfr : 0 ≤ fr ∧ fr ≤ 9) (hgf : Good s.f) (hgg : Good s.g) (hgu : Good s.u) (hs : s.kept = []) (hAp : Apart p) (hdl : p.dead ≠ p.linked) (hF : Fresh p B0 bmk bmb bmu) (hFd : B0 ≤ p.dead)
    (h12 : bmk ≠ bmb) (h13 : bmk ≠ bmu) (h23 : bmb ≠ bmu)
    (hlv : ∀ b o n c, vown = .slice (some ⟨b, o, none⟩) n c → b < B0) (hlr : ∀ b o n c, rv = .slice (some ⟨b, o, none⟩) n c → b < B0)
    (a : Act) (w : World) (hB0 : B0 ≤ w.heap.size) (hA : At a 499 [(2, rv), (3, .bool whole), (6, .bool plc), (7, .int .u8 (p.lo : Int)), (8, .int .u8 (p.wd : Int)), (14, .pointer (some ⟨bOwn, 0, none⟩)), (21, .int .i64 (n : Int)), (22, .int .u16 fr), (23, .int .u16 p.self), (24, .pointer (some ⟨bD, 0, none⟩)), (26, .pointer (some ⟨bL, 0, none⟩)), (27, .pointer (some ⟨bmk, 0, none⟩)), (28, .pointer (some ⟨bmb, 0, none⟩)), (29, .pointer (some ⟨bmu, 0, none⟩))]) (hL : Lk w bL p) (hO : Row w bOwn 23 1 (fun _ => vown)) (hB : Bools w vown os) (hZ : ZR w rv n raw) (hD : Row w bD 26 5 (fun i => .bool (d i)))
    (hmk : Enc w bmk s.f) (hmb : Enc w bmb s.g) (hmu : Enc w bmu s.u) (hdd : IsDead w p.dead (fun _ => false))
    (hk : MapP w p.known N s.f) (hb : MapP w p.shown N s.g) (hu : MapP w p.unheard N s.u) (hM : LinkM w p.linked nl 0 [] fr)
    (hR : ∀ w', Chg (fun b => B0 ≤ b) w w' → R (.returned (.bool true)) w') : (dropS 12 (Yba.f3.body.getD .skip)).wp Yba.prog (bodyPost Yba.prog Yba.f3 R) a w := by
  have hdmap : ∃ es c, w.heap[p.dead]? = some (Obj.map es c) := ⟨_, _, hdd⟩
  have hrow : ∀ b t m g, Row w b t m g → ¬ (b = p.dead) := fun b t m g h => row_ne_map h hdmap
  refine sq ?_
  refine st0 hA (wn rfl) rfl rfl (x_as rfl) fun a hA => ?_
  refine fin ?_
  refine cut (fun a' w' => At a' 499 [(2, rv), (3, .bool whole), (6, .bool plc), (7, .int .u8 (p.lo : Int)), (8, .int .u8 (p.wd : Int)), (14, .pointer (some ⟨bOwn, 0, none⟩)), (21, .int .i64 (n : Int)), (22, .int .u16 fr), (23, .int .u16 p.self), (24, .pointer (some ⟨bD, 0, none⟩)), (26, .pointer (some ⟨bL, 0, none⟩)), (27, .pointer (some ⟨bmk, 0, none⟩)), (28, .pointer (some ⟨bmb, 0, none⟩)), (29, .pointer (some ⟨bmu, 0, none⟩)), (34, .int .i64 ((psD d).length : Int))] ∧ Chg (· = p.dead) w w' ∧ IsDead w' p.dead d) ?_ ?_
  · refine sq ?_
    refine st0 hA (wn rfl) rfl rfl (x_as rfl) fun a hA => ?_
    refine fin ?_
    refine lpb (fun m a' w' => ∃ q : Nat, q + m = 5 ∧ 1 ≤ q ∧ At a' 499 [(2, rv), (3, .bool whole), (6, .bool plc), (7, .int .u8 (p.lo : Int)), (8, .int .u8 (p.wd : Int)), (14, .pointer (some ⟨bOwn, 0, none⟩)), (21, .int .i64 (n : Int)), (22, .int .u16 fr), (23, .int .u16 p.self), (24, .pointer (some ⟨bD, 0, none⟩)), (26, .pointer (some ⟨bL, 0, none⟩)), (27, .pointer (some ⟨bmk, 0, none⟩)), (28, .pointer (some ⟨bmb, 0, none⟩)), (29, .pointer (some ⟨bmu, 0, none⟩)), (34, .int .i64 ((psD (below d q)).length : Int)), (35, .int .i64 (q : Int))] ∧ Chg (· = p.dead) w w' ∧ IsDead w' p.dead (below d q)) 4 ⟨1, by omega, by omega, by rw [psD_one]; exact hA.pick [2, 3, 6, 7, 8, 14, 21, 22, 23, 24, 26, 27, 28, 29, 34, 35], Chg.refl _ _, hdd.congr fun q h1 h4 => by unfold below; rw [decide_eq_false (by omega), Bool.and_false]⟩ ?_
    rintro m a w1 ⟨q, hqm, hq1, hA, hc1, hd1⟩
    have hL1 : Lk w1 bL p := Row.chg hL hc1 (hrow _ _ _ _ hL)
    have hD1 := hD.chg hc1 (hrow _ _ _ _ hD)
    refine wp_seq ?_
    by_cases hlt : q ≤ 4
    case neg =>
      have : q = 5 := by omega
      subst this
      refine sq ?_
      refine st0 hA (wn rfl) rfl rfl (x_mv rfl) fun a hA => ?_
      refine st0 hA (wn rfl) rfl rfl (x_bin rfl rfl (leq3F _ _ _ _ (by omega))) fun a hA => ?_
      refine fin ?_
      refine cdfe hA rfl (x_th (xin (n_th ⟨?_, hc1, ?_⟩)))
      · rw [psD_below] at hA
        exact hA.pick [2, 3, 6, 7, 8, 14, 21, 22, 23, 24, 26, 27, 28, 29, 34]
      · exact hd1.congr fun j h1 h4 => by unfold below; rw [decide_eq_true (by omega), Bool.and_true]
    refine sq ?_
    refine st0 hA (wn rfl) rfl rfl (x_mv rfl) fun a hA => ?_
    refine st0 hA (wn rfl) rfl rfl (x_bin rfl rfl (leq3T _ _ _ _ (by omega))) fun a hA => ?_
    refine fin ?_
    refine cdts hA rfl ?_
    refine cut (fun a' w' => At a' 499 [(2, rv), (3, .bool whole), (6, .bool plc), (7, .int .u8 (p.lo : Int)), (8, .int .u8 (p.wd : Int)), (14, .pointer (some ⟨bOwn, 0, none⟩)), (21, .int .i64 (n : Int)), (22, .int .u16 fr), (23, .int .u16 p.self), (24, .pointer (some ⟨bD, 0, none⟩)), (26, .pointer (some ⟨bL, 0, none⟩)), (27, .pointer (some ⟨bmk, 0, none⟩)), (28, .pointer (some ⟨bmb, 0, none⟩)), (29, .pointer (some ⟨bmu, 0, none⟩)), (34, .int .i64 ((psD (below d (q + 1))).length : Int)), (35, .int .i64 (q : Int))] ∧ Chg (· = p.dead) w w' ∧ IsDead w' p.dead (below d (q + 1))) ?_ ?_
    · refine wp_block ?_
      refine sq ?_
      refine st0 hA (wn rfl) rfl rfl (x_mv rfl) fun a hA => ?_
      refine st0 hA (wn rfl) rfl rfl (x_idx rfl rfl (idxA _ _ _ _ Yba.underlying26 sz4 (by omega))) fun a hA => ?_
      refine st0 hA (wn rfl) rfl rfl (x_load rfl (hD1.load1 ag4 (by omega))) fun a hA => ?_
      refine fin ?_
      have ed : d (0 + q * 1) = d q := by rw [Nat.zero_add, Nat.mul_one]
      rw [ed] at hA
      cases hdq : d q with
      | false =>
        rw [hdq] at hA
        rw [below_next d q hdq]
        exact cdfz hA rfl (n_in (n_th ⟨hA.pick [2, 3, 6, 7, 8, 14, 21, 22, 23, 24, 26, 27, 28, 29, 34, 35], hc1, hd1⟩))
      | true =>
        rw [hdq] at hA
        refine cdt hA rfl ?_
        have hA : At a 499 [(2, rv), (3, .bool whole), (6, .bool plc), (7, .int .u8 (p.lo : Int)), (8, .int .u8 (p.wd : Int)), (14, .pointer (some ⟨bOwn, 0, none⟩)), (21, .int .i64 (n : Int)), (22, .int .u16 fr), (23, .int .u16 p.self), (24, .pointer (some ⟨bD, 0, none⟩)), (26, .pointer (some ⟨bL, 0, none⟩)), (27, .pointer (some ⟨bmk, 0, none⟩)), (28, .pointer (some ⟨bmb, 0, none⟩)), (29, .pointer (some ⟨bmu, 0, none⟩)), (34, .int .i64 ((psD (below d q)).length : Int)), (35, .int .i64 (q : Int))] := hA.pick [2, 3, 6, 7, 8, 14, 21, 22, 23, 24, 26, 27, 28, 29, 34, 35]
        have hL1' : Lk w1.drew bL p := hL1
        have hd1' : IsDead w1.drew p.dead (below d q) := hd1
        refine wp_seq ?_
        refine drawn_last [.pointer (some ⟨bL, 0, none⟩), .pointer (some ⟨bL, 0, none⟩), .pointer (some ⟨bL, 0 + 105, none⟩), .map (some p.dead), .int .i64 (q : Int), .int .u16 (q : Int), apV (q : Int), undef] 7 (fun w' => Below w1.drew.heap.size w1.drew w')
          (fun w' => ∃ wx, Below w1.drew.heap.size w1.drew wx ∧ Up wx w' p.dead ∧ IsDead w' p.dead (below d (q + 1))) hA mixed (by kernel_rfl) rfl (by kernel_rfl) (Below.refl _ _) ?_ ?_
        · refine each_cons (do0 rfl [] rfl (wn rfl) fun w hS => (x_mv rfl)) ?_
          refine each_cons (do0 rfl [(170, 0)] rfl (wn rfl) fun w hS => (x_nil rfl)) ?_
          refine each_cons (do0 rfl [(171, 1)] rfl (wn rfl) fun w hS => (x_fld rfl (fld49_9 _ _ _))) ?_
          refine each_cons (do0 rfl [(172, 2)] rfl (wn rfl) fun w hS => (x_load rfl (Lk.one (hL1'.below hS hL1'.lt) ag46 5 _ (by omega) rfl))) ?_
          refine each_cons (do0 rfl [] rfl (wn rfl) fun w hS => (x_mv rfl)) ?_
          refine each_cons (do0 rfl [(174, 4)] rfl (wn rfl) fun w hS => (x_cv rfl (cv3_24 _ (by omega) (by omega)))) ?_
          refine each_cons (do1 rfl [(175, 5)] rfl (wn rfl) fun w hS => (x_call (cap := []) rfl rfl c6 ((ap_of (q : Int) w).mono fun e w' h => ⟨h.1, hS.trans (h.2.mono hS.size)⟩))) ?_
          refine each_cons (do1 rfl [(173, 3), (176, 6)] rfl (wn rfl) fun w hS => (x_mapup rfl rfl rfl (by
            obtain ⟨w', h1, h2, h3⟩ := (hd1'.keep (hS.block _ hd1'.lt)).put (d := d) ⟨hq1, hlt⟩ hdq
            exact ⟨w', h1, w, hS, h2, h3⟩))) ?_
          exact each_nil
        rintro a w2 hA ⟨wx, hbx, hux, hdx⟩
        refine n_th ?_
        have hps := (ents_push d q ⟨hq1, hlt⟩ hdq).2
        refine rg ?_
        refine st0 hA (wn rfl) rfl rfl (x_mv rfl) fun a hA => ?_
        refine st0 hA (wn rfl) rfl rfl (x_bin rfl rfl (add3N _ _ _ (by have : (psD (below d q)).length ≤ 4 := (by unfold psD psOf; cases below d q 1 <;> cases below d q 2 <;> cases below d q 3 <;> cases below d q 4 <;> simp); omega))) fun a hA => ?_
        refine st0 hA (wn rfl) rfl rfl (x_as rfl) fun a hA => ?_
        rw [hps] at hA
        refine fin0 (n_in (n_th ⟨hA.pick [2, 3, 6, 7, 8, 14, 21, 22, 23, 24, 26, 27, 28, 29, 34, 35], ?_, hdx⟩))
        exact (hc1.trans ((Chg.refl _ w1).drew.trans (Chg.of_below hbx))).trans (Chg.of_up hux rfl)
    rintro a w3 ⟨hA, hc3, hd3⟩
    refine rg ?_
    refine st0 hA (wn rfl) rfl rfl (x_mv rfl) fun a hA => ?_
    refine st0 hA (wn rfl) rfl rfl (x_bin rfl rfl (add3N _ _ _ (by omega))) fun a hA => ?_
    refine st0 hA (wn rfl) rfl rfl (x_as rfl) fun a hA => ?_
    exact fin0 (n_th ⟨m - 1, by omega, q + 1, by omega, by omega, hA.pick [2, 3, 6, 7, 8, 14, 21, 22, 23, 24, 26, 27, 28, 29, 34, 35], hc3, hd3⟩)
  rintro a w1 ⟨hA, hc1, hd1⟩
  have hmapd : ∀ c, (∃ es k, w.heap[c]? = some (Obj.map es k)) → c ≠ p.dead → ¬ (c = p.dead) := fun _ _ h => h
  have hL1 : Lk w1 bL p := Row.chg hL hc1 (hrow _ _ _ _ hL)
  have hO1 := hO.chg hc1 (hrow _ _ _ _ hO)
  have hD1 := hD.chg hc1 (hrow _ _ _ _ hD)
  have hmk1 : Enc w1 bmk s.f := Row.chg hmk hc1 (hrow _ _ _ _ hmk)
  have hmb1 : Enc w1 bmb s.g := Row.chg hmb hc1 (hrow _ _ _ _ hmb)
  have hmu1 : Enc w1 bmu s.u := Row.chg hmu hc1 (hrow _ _ _ _ hmu)
  have hB1 : Bools w1 vown os := hB.chg hc1 fun b o m c e h => by
    have := hlv b o m c e
    have h' : b = p.dead := h
    omega
  have hZ1 : ZR w1 rv n raw := hZ.chg hc1 fun b o m c e h => by
    have := hlr b o m c e
    have h' : b = p.dead := h
    omega
  have hk1 := hk.chg hc1 hAp.kd
  have hb1 := hb.chg hc1 hAp.bd
  have hu1 := hu.chg hc1 hAp.ud
  have hM1 := hM.keep_nil hc1 hdl.symm
  obtain ⟨w2, hr2, b2, hs2, r2⟩ := mk_slice (t := 53) (e := 55) Yba.underlying53 ti55 (by rw [show (routeV 0 0).cells.size = (routeC 0 0).length from rfl, routeC_len]) (by omega) (by omega) (by omega) n (by omega) w1
  have c12 : Chg (fun _ => False) w1 w2 := Chg.F b2
  have hsz1 : B0 ≤ w1.heap.size := Nat.le_trans hB0 hc1.size
  refine sq ?_
  refine st0 hA (wn rfl) rfl rfl (x_mv rfl) fun a hA => ?_
  refine st hA (wn rfl) rfl rfl (x_mkslice rfl rfl ⟨w2, hr2, rfl⟩) fun a w2' hA e => ?_
  subst e
  refine st0 hA (wn rfl) rfl rfl (x_as rfl) fun a hA => ?_
  refine fin ?_
  obtain ⟨zg, hzg⟩ : ∃ zg : Nat → Value, Row w2 w1.heap.size 55 (36 * n) zg := ⟨_, r2⟩
  have hlt36 : w1.heap.size < w2.heap.size := by omega
  generalize hbR : w1.heap.size = bR at *
  refine cut (fun a' w' => At a' 499 [(2, rv), (3, .bool whole), (6, .bool plc), (7, .int .u8 (p.lo : Int)), (8, .int .u8 (p.wd : Int)), (14, .pointer (some ⟨bOwn, 0, none⟩)), (21, .int .i64 (n : Int)), (22, .int .u16 fr), (23, .int .u16 p.self), (24, .pointer (some ⟨bD, 0, none⟩)), (26, .pointer (some ⟨bL, 0, none⟩)), (27, .pointer (some ⟨bmk, 0, none⟩)), (28, .pointer (some ⟨bmb, 0, none⟩)), (29, .pointer (some ⟨bmu, 0, none⟩)), (36, .slice (some ⟨bR, 0, none⟩) n n), (34, .int .i64 ((psD d).length : Int))] ∧ Chg (· = bR) w2 w' ∧ Routes w' bR n (rsOf raw)) ?_ ?_
  · obtain ⟨rp, rc, hrv⟩ := hZ.len
    refine sq ?_
    refine st0 hA (wn rfl) rfl rfl (x_mv rfl) fun a hA => ?_
    rw [hrv] at hA
    refine st0 hA (wn rfl) rfl rfl (x_len rfl Yba.underlying22) fun a hA => ?_
    refine st0 hA (wn rfl) rfl rfl (x_mv rfl) fun a hA => ?_
    rw [← hrv] at hA
    refine fin ?_
    refine lpb (fun m a' w' => ∃ k : Nat, k + m = n ∧ At a' 499 [(2, rv), (3, .bool whole), (6, .bool plc), (7, .int .u8 (p.lo : Int)), (8, .int .u8 (p.wd : Int)), (14, .pointer (some ⟨bOwn, 0, none⟩)), (21, .int .i64 (n : Int)), (22, .int .u16 fr), (23, .int .u16 p.self), (24, .pointer (some ⟨bD, 0, none⟩)), (26, .pointer (some ⟨bL, 0, none⟩)), (27, .pointer (some ⟨bmk, 0, none⟩)), (28, .pointer (some ⟨bmb, 0, none⟩)), (29, .pointer (some ⟨bmu, 0, none⟩)), (36, .slice (some ⟨bR, 0, none⟩) n n), (34, .int .i64 ((psD d).length : Int)), (181, rv), (182, .int .i64 (n : Int)), (183, .int .i64 (k : Int))] ∧ Chg (· = bR) w2 w' ∧ Row w' bR 55 (36 * n) (fun i => if i < 36 * k then routeG (rsOf raw) i else zg i)) n ⟨0, by omega, hA.pick [2, 3, 6, 7, 8, 14, 21, 22, 23, 24, 26, 27, 28, 29, 36, 34, 181, 182, 183], Chg.refl _ _, hzg.ext fun i hi => by rw [if_neg (by omega)]⟩ ?_
    rintro m a w3 ⟨k, hkm, hA, hc3, hr3⟩
    by_cases hlt : k < n
    case neg =>
      have : k = n := by omega
      subst this
      refine sq ?_
      refine st0 hA (wn rfl) rfl rfl (x_bin rfl rfl (lss3F _ _ _ _ (by omega))) fun a hA => ?_
      refine fin ?_
      exact sqfe hA rfl (x_th (xin (n_th ⟨hA.pick [2, 3, 6, 7, 8, 14, 21, 22, 23, 24, 26, 27, 28, 29, 36, 34], hc3, hr3.ext fun i hi => by rw [if_pos hi]⟩)))
    obtain ⟨r1, r2'⟩ := hraw k hlt
    have hZ3 : ZR w3 rv n raw := (hZ1.chg c12 fun _ _ _ _ _ => id).chg hc3 fun b o m c e h => by
      have := hlr b o m c e
      have h' : b = bR := h
      omega
    obtain ⟨bz, oz, cz, hrv', hld⟩ := hZ3.load hlt
    obtain ⟨w4, hr4, m4⟩ := mk_alloc _ al52 w3
    have hs4 : w4.heap.size = w3.heap.size + 1 := m4.2.1
    obtain ⟨w5, hr5, u5, r5⟩ := m4.row.store (ty := 52) (o := 0) [Value.int .u8 ((raw k).1 : Int), .int .u8 ((raw k).2 : Int)] info52 rfl (Nat.le_refl _)
    have c35 : Chg (fun _ => False) w3 w5 := (Chg.F m4.1).comp (Chg.of_up (X := (· = w3.heap.size)) u5 rfl) fun x hx e => by
      have : x = w3.heap.size := e
      omega
    have r38 : Row w5 w3.heap.size 52 2 (fun i => ([Value.int .u8 ((raw k).1 : Int), .int .u8 ((raw k).2 : Int)] : List Value).getD i undef) := by
      refine r5.ext fun x hx => ?_
      have hx' : x < 2 := hx
      rw [if_pos (by simp only [List.length_cons, List.length_nil]; omega)]
      rfl
    have hr5' := hr3.chg c35 id
    refine sq ?_
    refine st0 hA (wn rfl) rfl rfl (x_bin rfl rfl (lss3T _ _ _ _ (by omega))) fun a hA => ?_
    refine fin ?_
    refine sqts hA rfl ?_
    refine sqb ?_
    refine sq ?_
    refine st0 hA (wn rfl) rfl rfl (x_mv rfl) fun a hA => ?_
    rw [hrv'] at hA
    refine st0 hA (wn rfl) rfl rfl (x_idx rfl rfl (idxS _ _ _ _ _ _ Yba.underlying22 sz52 hlt)) fun a hA => ?_
    refine st0 hA (wn rfl) rfl rfl (x_load rfl hld) fun a hA => ?_
    refine st hA (wn rfl) rfl rfl (x_alloc ⟨w4, hr4, rfl⟩) fun a w4' hA e => ?_
    subst e
    refine st0 hA (wn rfl) rfl rfl (x_as rfl) fun a hA => ?_
    refine stn hA (wn rfl) rfl (x_store rfl rfl ⟨w5, hr5, rfl⟩) fun w5' e => ?_
    subst e
    refine fin ?_
    rw [← hrv'] at hA
    have hA : At a 499 [(2, rv), (3, .bool whole), (6, .bool plc), (7, .int .u8 (p.lo : Int)), (8, .int .u8 (p.wd : Int)), (14, .pointer (some ⟨bOwn, 0, none⟩)), (21, .int .i64 (n : Int)), (22, .int .u16 fr), (23, .int .u16 p.self), (24, .pointer (some ⟨bD, 0, none⟩)), (26, .pointer (some ⟨bL, 0, none⟩)), (27, .pointer (some ⟨bmk, 0, none⟩)), (28, .pointer (some ⟨bmb, 0, none⟩)), (29, .pointer (some ⟨bmu, 0, none⟩)), (36, .slice (some ⟨bR, 0, none⟩) n n), (34, .int .i64 ((psD d).length : Int)), (181, rv), (182, .int .i64 (n : Int)), (183, .int .i64 (k : Int)), (37, .int .i64 (k : Int)), (38, .pointer (some ⟨w3.heap.size, 0, none⟩))] := hA.pick [2, 3, 6, 7, 8, 14, 21, 22, 23, 24, 26, 27, 28, 29, 36, 34, 181, 182, 183, 37, 38]
    have r38' : Row w5.drew w3.heap.size 52 2 (fun i => ([Value.int .u8 ((raw k).1 : Int), .int .u8 ((raw k).2 : Int)] : List Value).getD i undef) := r38
    have hr5d : Row w5.drew bR 55 (36 * n) (fun i => if i < 36 * k then routeG (rsOf raw) i else zg i) := hr5'
    have hpc : ∀ w', Calls Yba.prog 5 #[.int .u8 ((raw k).2 : Int)] w' fun e w'' => e = .returned (.int .u16 (((raw k).2 % 4 + 1 : Nat) : Int)) ∧ w'' = w' := fun w' => by
      have := port_any ((raw k).2 : Int) (by omega) (by omega) w'
      rw [portOf_nat] at this
      exact this
    refine drawn_last [.slice (some ⟨bR, 0, none⟩) n n, .int .i64 (k : Int), .pointer (some ⟨w3.heap.size, 0, none⟩), .int .u8 ((raw k).1 : Int), keyV (raw k).1, .pointer (some ⟨w3.heap.size, 0 + 1, none⟩), .int .u8 ((raw k).2 : Int), .int .u16 (((raw k).2 % 4 + 1 : Nat) : Int), apV (((raw k).2 % 4 + 1 : Nat) : Int), routeV (raw k).1 (((raw k).2 % 4 + 1 : Nat) : Int), .pointer (some ⟨bR, 0 + k * 36, none⟩), undef] 11 (fun w' => Below w5.drew.heap.size w5.drew w')
      (fun w' => ∃ wx, Below w5.drew.heap.size w5.drew wx ∧ Up wx w' bR ∧ Row w' bR 55 (36 * n) (fun i => if 0 + k * 36 ≤ i ∧ i < 0 + k * 36 + (routeC (raw k).1 (((raw k).2 % 4 + 1 : Nat) : Int)).length then (routeC (raw k).1 (((raw k).2 % 4 + 1 : Nat) : Int)).getD (i - (0 + k * 36)) undef else if i < 36 * k then routeG (rsOf raw) i else zg i)) hA mixed (by kernel_rfl) rfl (by kernel_rfl) (Below.refl _ _) ?_ ?_
    · refine each_cons (do0 rfl [] rfl (wn rfl) fun w hS => (x_mv rfl)) ?_
      refine each_cons (do0 rfl [] rfl (wn rfl) fun w hS => (x_mv rfl)) ?_
      refine each_cons (do0 rfl [] rfl (wn rfl) fun w hS => (x_fld rfl (fld52_0 _ _ _))) ?_
      refine each_cons (do0 rfl [(190, 2)] rfl (wn rfl) fun w hS => (x_load rfl ((r38'.below hS r38'.lt).load1 ag5 (by omega)))) ?_
      refine each_cons (do1 rfl [(191, 3)] rfl (wn rfl) fun w hS => (x_call (cap := []) rfl rfl c7 ((key_any ((raw k).1 : Int) w).mono fun e w' h => ⟨h.1, hS.trans (h.2.mono hS.size)⟩))) ?_
      refine each_cons (do0 rfl [] rfl (wn rfl) fun w hS => (x_fld rfl (fld52_1 _ _ _))) ?_
      refine each_cons (do0 rfl [(193, 5)] rfl (wn rfl) fun w hS => (x_load rfl ((r38'.below hS r38'.lt).load1 ag5 (by omega)))) ?_
      refine each_cons (do1 rfl [(194, 6)] rfl (wn rfl) fun w hS => (x_call (cap := []) rfl rfl c5 ((hpc w).mono fun e w' h => ⟨h.1, by rw [h.2]; exact hS⟩))) ?_
      refine each_cons (do1 rfl [(195, 7)] rfl (wn rfl) fun w hS => (x_call (cap := []) rfl rfl c6 ((ap_of _ w).mono fun e w' h => ⟨h.1, hS.trans (h.2.mono hS.size)⟩))) ?_
      refine each_cons (do0 rfl [(192, 4), (196, 8)] rfl (wn rfl) fun w hS => (x_build rfl (build55 _ _ _))) ?_
      refine each_cons (do0 rfl [(188, 0), (189, 1)] rfl (wn rfl) fun w hS => (x_idx rfl rfl (idxS _ _ _ _ _ _ Yba.underlying53 sz55 hlt))) ?_
      refine each_cons (do1 rfl [(198, 10), (197, 9)] rfl (wn rfl) fun w hS => (x_store rfl rfl (by
        obtain ⟨w', h1, h2, h3⟩ := (hr5d.below hS hr5d.lt).store (ty := 55) (o := 0 + k * 36) (routeC (raw k).1 (((raw k).2 % 4 + 1 : Nat) : Int)) (by rw [routeC_len]; exact info55) (routeC_one _ _) (by rw [routeC_len]; omega)
        exact ⟨w', h1, w, hS, h2, h3⟩))) ?_
      exact each_nil
    rintro a w6 hA ⟨wx, hbx, hux, hrx⟩
    refine n_in (n_th ?_)
    refine rg ?_
    refine st0 hA (wn rfl) rfl rfl (x_bin rfl rfl (add3N _ _ _ (by omega))) fun a hA => ?_
    refine st0 hA (wn rfl) rfl rfl (x_mv rfl) fun a hA => ?_
    have cx : Chg (· = bR) w2 w6 := ((hc3.comp c35 fun _ _ e => e.elim).trans ((Chg.refl _ w5).drew.trans (Chg.of_below hbx))).trans (Chg.of_up hux rfl)
    refine fin0 (n_th ⟨m - 1, by omega, k + 1, by omega, hA.pick [2, 3, 6, 7, 8, 14, 21, 22, 23, 24, 26, 27, 28, 29, 36, 34, 181, 182, 183], cx, hrx.ext fun i hi => ?_⟩)
    rw [routeC_len]
    by_cases e1 : 0 + k * 36 ≤ i ∧ i < 0 + k * 36 + 36
    · rw [if_pos e1, if_pos (by omega)]
      have := routeG_at (rsOf raw) k (i - (0 + k * 36)) (by omega)
      rw [show 0 + k * 36 + (i - (0 + k * 36)) = i by omega] at this
      rw [this]
      rfl
    · rw [if_neg e1]
      by_cases e2 : i < 36 * k
      · rw [if_pos e2, if_pos (by omega)]
      · rw [if_neg e2, if_neg (by omega)]
  rintro a w3 ⟨hA, hc3, hRt3⟩
  have hc13 : Chg (fun _ => False) w1 w3 := c12.comp hc3 fun x hx e => by
    have : x = bR := e
    omega
  exact law2 bL bR bOwn bD bmk bmb bmu n nl N B0 p fr whole plc rv raw d os vown s R hn hnl hN hlo hwd hraw hol hplc hself hfr hgf hgg hgu hs hAp hdl hF h12 h13 h23 hlv hlr a w3 (Nat.le_trans hsz1 (by have := hc13.size; omega)) hA (Row.chg hL1 hc13 id) hRt3 (hO1.chg hc13 id) (hB1.chg hc13 fun _ _ _ _ _ => id) (hZ1.chg hc13 fun _ _ _ _ _ => id) (hD1.chg hc13 id) (Row.chg hmk1 hc13 id) (Row.chg hmb1 hc13 id) (Row.chg hmu1 hc13 id) (hd1.chg hc13 id) (hk1.chg hc13 id) (hb1.chg hc13 id) (hu1.chg hc13 id) (hM1.chg hc13) fun w4 hc4 => hR w4 (((hc1.mono fun x _ e => by have e' : x = p.dead := e; omega).comp hc13 fun _ _ e => e.elim).trans hc4)
end Go.Proofs.Ybulkcrtu
