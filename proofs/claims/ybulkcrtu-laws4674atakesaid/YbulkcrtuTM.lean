import Derived.Test.YbulkcrtuTL
namespace Go.Proofs.Ybulkcrtu
open Go.RowKit Go.ChangeMaps Go.MapKept

theorem build59 (bR n : Nat) (whole : Bool) (w : World) : (Instr.build 59 #[(0, .slice (some ⟨bR, 0, none⟩) n n), (1, .bool whole)]).run Yba.prog w = .ok (winV bR n whole) w := by kernel_rfl
theorem own_route {w : World} {base n : Nat} {v : Value} {rs : Nat → Nat × Nat} (h : w.ownsRow base 55 36 v n (logC rs n)) {k : Nat} (hk : k < n) :
    ∃ g cap, v = .slice (some ⟨g, 0, none⟩) n cap ∧ (Instr.loadAt 55 (.pointer (some ⟨g, 0 + k * 36, none⟩))).run Yba.prog w = .ok (routeV (rs k).1 ((rs k).2 : Nat)) w := by
  obtain ⟨g, cap, rfl, hc⟩ := own_cells h (by omega)
  refine ⟨g, cap, rfl, ?_⟩
  exact run_loadAt_mid w g (0 + k * 36) 55 (routeC (rs k).1 ((rs k).2 : Nat)) _ (fun j u hj => by
    rw [Nat.zero_add]
    exact hc _ _ (flat_get (fun i : Nat => routeC (rs i).1 ((rs i).2 : Nat)) 36 (fun i => routeC_len _ _) (List.range n) k j k u (by rw [List.getElem?_range hk]) hj)) Yba.underlying55 rfl (by rw [routeC_len]; exact info55)
theorem blt_dlen {w : World} {b : Nat} {d : Nat → Bool} (h : IsDead w b d) (ty : TypeId) (cs : Array Bool) : ∃ w', Blt .len #[46] ty cs #[.map (some b)] w (.int .i64 ((psD d).length : Int)) w' ∧ w' = w := by
  refine ⟨w, ?_, rfl⟩
  unfold Blt
  simp only [builtin, Sem.run_bind, h.len ty, Result.andThen_ok, Sem.run_pure]
/-- The blocks that the law has made. -/
structure Fresh (p : LkP) (B0 bmk bmb bmu : Nat) : Prop where
  known : B0 ≤ p.known
  shownBy : B0 ≤ p.shown
  unheard : B0 ≤ p.unheard
  linked : B0 ≤ p.linked
  k : B0 ≤ bmk
  b : B0 ≤ bmb
  u : B0 ≤ bmu
set_option maxRecDepth 100000 in
set_option maxHeartbeats 2000000 in
/-- The call of take, and what follows. -/
theorem law2 (bL bR bOwn bD bmk bmb bmu n nl N B0 : Nat) (p : LkP) (fr : Int) (whole plc : Bool) (rv : Value) (raw : Nat → Nat × Nat) (d : Nat → Bool) (os : List Bool) (vown : Value) (s : TS) (R : Ending → World → Prop)
    (hn : n ≤ 300) (hnl : nl ≤ 600) (hN : N ≤ 400) (hlo : p.lo ≤ 255) (hwd : p.wd ≤ 255) (hraw : ∀ k, k < n → (raw k).1 ≤ 255 ∧ (raw k).2 ≤ 255) (hol : os.length ≤ 9223372036854775807) (hplc : plc = decide (p.purpose = 1)) (hself : 0 ≤ p.self ∧ p.self ≤ 9) (hfr : 0 ≤ fr ∧ fr ≤ 9) (hgf : Good s.f) (hgg : Good s.g) (hgu : Good s.u) (hs : s.kept = []) (hAp : Apart p) (hdl : p.dead ≠ p.linked) (hF : Fresh p B0 bmk bmb bmu)
    (h12 : bmk ≠ bmb) (h13 : bmk ≠ bmu) (h23 : bmb ≠ bmu)
    (hlv : ∀ b o n c, vown = .slice (some ⟨b, o, none⟩) n c → b < B0) (hlr : ∀ b o n c, rv = .slice (some ⟨b, o, none⟩) n c → b < B0)
    (a : Act) (w : World) (hB0 : B0 ≤ w.heap.size) (hA : At a 499 [(2, rv), (3, .bool whole), (6, .bool plc), (7, .int .u8 (p.lo : Int)), (8, .int .u8 (p.wd : Int)), (14, .pointer (some ⟨bOwn, 0, none⟩)), (21, .int .i64 (n : Int)), (22, .int .u16 fr), (23, .int .u16 p.self), (24, .pointer (some ⟨bD, 0, none⟩)), (26, .pointer (some ⟨bL, 0, none⟩)), (27, .pointer (some ⟨bmk, 0, none⟩)), (28, .pointer (some ⟨bmb, 0, none⟩)), (29, .pointer (some ⟨bmu, 0, none⟩)), (36, .slice (some ⟨bR, 0, none⟩) n n), (34, .int .i64 ((psD d).length : Int))]) (hL : Lk w bL p) (hRt : Routes w bR n (rsOf raw)) (hO : Row w bOwn 23 1 (fun _ => vown)) (hB : Bools w vown os) (hZ : ZR w rv n raw) (hD : Row w bD 26 5 (fun i => .bool (d i)))
    (hmk : Enc w bmk s.f) (hmb : Enc w bmb s.g) (hmu : Enc w bmu s.u) (hdd : IsDead w p.dead d)
    (hk : MapP w p.known N s.f) (hb : MapP w p.shown N s.g) (hu : MapP w p.unheard N s.u) (hM : LinkM w p.linked nl 0 [] fr)
    (hR : ∀ w', Chg (fun b => B0 ≤ b) w w' → R (.returned (.bool true)) w') : (dropS 16 (Yba.f3.body.getD .skip)).wp Yba.prog (bodyPost Yba.prog Yba.f3 R) a w := by
  obtain ⟨w1, hr1, m1⟩ := mk_alloc _ al53 w
  obtain ⟨w2, hr2, m2⟩ := mk_alloc _ al3 w1
  have hs1 : w1.heap.size = w.heap.size + 1 := m1.2.1
  have hs2 : w2.heap.size = w1.heap.size + 1 := m2.2.1
  obtain ⟨w3, hr3, u3, r3⟩ := m2.row.store1 (ty := 3) (o := 0) (.int .i64 0) sz3 rfl (by simp)
  have c02 : Chg (fun _ => False) w w2 := (Chg.F m1.1).trans (Chg.F m2.1)
  have c03 : Chg (fun _ => False) w w3 := c02.comp (Chg.of_up (X := (· = w1.heap.size)) u3 rfl) fun x hx e => by
    have : x = w1.heap.size := e
    omega
  have hlog3 : Row w3 w.heap.size 53 1 (fun _ => .slice none 0 0) := by
    have h1 : Row w1 w.heap.size 53 1 (fun _ => .slice none 0 0) := m1.row.ext fun i hi => by
      have : i < 1 := hi
      have : i = 0 := by omega
      rw [this]
      rfl
    exact (h1.below m2.1 (by omega)).up u3 (by omega)
  have hcal3 : Row w3 w1.heap.size 3 1 (fun _ => .int .i64 0) := r3.ext fun i hi => by
    have : i < 1 := hi
    rw [if_pos (by omega)]
  refine sq ?_
  refine st hA (wn rfl) rfl rfl (x_alloc ⟨w1, hr1, rfl⟩) fun a w1' hA e => ?_
  subst e
  refine fin ?_
  refine sq ?_
  refine st hA (wn rfl) rfl rfl (x_alloc ⟨w2, hr2, rfl⟩) fun a w2' hA e => ?_
  subst e
  refine stn hA (wn rfl) rfl (x_store rfl rfl ⟨w3, hr3, rfl⟩) fun w3' e => ?_
  subst e
  refine fin ?_
  refine sq ?_
  refine st0 hA (wn rfl) rfl rfl (x_mkfunc rfl) fun a hA => ?_
  refine st0 hA (wn rfl) rfl rfl (x_as rfl) fun a hA => ?_
  refine fin ?_
  refine sq ?_
  refine st0 hA (wn rfl) rfl rfl (x_mv rfl) fun a hA => ?_
  refine st0 hA (wn rfl) rfl rfl (x_mv rfl) fun a hA => ?_
  refine st hA (wn rfl) rfl rfl (x_call (cap := []) rfl rfl c6 (ap_of fr w3)) fun a w4 hA b4 => ?_
  refine st0 hA (wn rfl) rfl rfl (x_mv rfl) fun a hA => ?_
  refine st0 hA (wn rfl) rfl rfl (x_mv rfl) fun a hA => ?_
  refine st0 hA (wn rfl) rfl rfl (x_build rfl (build59 _ _ _ _)) fun a hA => ?_
  refine st0 hA (wn rfl) rfl rfl (x_mv rfl) fun a hA => ?_
  have c04 : Chg (fun _ => False) w w4 := c03.trans (Chg.F b4)
  have hll := hlog3.lt
  have hlc := hcal3.lt
  have hlog4 := hlog3.below b4 hll
  have hcal4 := hcal3.below b4 hlc
  have hsz4 : w3.heap.size ≤ w4.heap.size := b4.size
  have hs3 : w3.heap.size = w2.heap.size := u3.size
  generalize hbLog : w.heap.size = bLog at *
  generalize hbCal : w1.heap.size = bCal at *
  have hL4 : Lk w4 bL p := Row.chg hL c04 id
  have hRt4 : Routes w4 bR n (rsOf raw) := Row.chg hRt c04 id
  have hO4 := hO.chg c04 id
  have hB4 : Bools w4 vown os := hB.chg c04 fun _ _ _ _ _ => id
  have hZ4 : ZR w4 rv n raw := hZ.chg c04 fun _ _ _ _ _ => id
  have hD4 := hD.chg c04 id
  have hmk4 : Enc w4 bmk s.f := Row.chg hmk c04 id
  have hmb4 : Enc w4 bmb s.g := Row.chg hmb c04 id
  have hmu4 : Enc w4 bmu s.u := Row.chg hmu c04 id
  have hdd4 := hdd.chg c04 id
  have hk4 := hk.chg c04 id
  have hb4' := hb.chg c04 id
  have hu4 := hu.chg c04 id
  have hM4 := hM.chg c04
  have hx3 : ∀ x, x < B0 → ¬ X3 p x ∧ x ≠ p.linked := fun x hx => by
    have := hF.known; have := hF.shownBy; have := hF.unheard; have := hF.linked
    refine ⟨?_, by omega⟩
    rintro (e | e | e) <;> omega
  have hcall := take_any bL bR n nl N bLog bCal bOwn p fr whole (rsOf raw) d os vown s hn (by omega) hN (fun i hi => ⟨(hraw i hi).1, by show 1 ≤ (raw i).2 % 4 + 1 ∧ (raw i).2 % 4 + 1 ≤ 4; omega⟩) hlo hwd hAp hs w4 hL4 hRt4 hdd4 hk4 hb4' hu4 hM4 hlog4 hcal4 hO4 hB4 (fun b o m c e => by
    have h1 := hlv b o m c e
    have h2 := hx3 b h1
    exact ⟨by omega, by omega, by omega, h2.1, h2.2⟩)
  refine st hA (wn rfl) rfl rfl (x_call (cap := []) rfl rfl c9 hcall) fun a w5 hA T5 => ?_
  obtain ⟨c5, k5, b5, u5, l5, vlog, hlog5, hown5⟩ := T5
  refine fin ?_
  have hA : At a 499 [(2, rv), (3, .bool whole), (6, .bool plc), (7, .int .u8 (p.lo : Int)), (8, .int .u8 (p.wd : Int)), (14, .pointer (some ⟨bOwn, 0, none⟩)), (21, .int .i64 (n : Int)), (22, .int .u16 fr), (23, .int .u16 p.self), (24, .pointer (some ⟨bD, 0, none⟩)), (26, .pointer (some ⟨bL, 0, none⟩)), (27, .pointer (some ⟨bmk, 0, none⟩)), (28, .pointer (some ⟨bmb, 0, none⟩)), (29, .pointer (some ⟨bmu, 0, none⟩)), (36, .slice (some ⟨bR, 0, none⟩) n n), (34, .int .i64 ((psD d).length : Int)), (39, .pointer (some ⟨bLog, 0, none⟩))] := hA.pick [2, 3, 6, 7, 8, 14, 21, 22, 23, 24, 26, 27, 28, 29, 36, 34, 39]
  have hrow5 : ∀ b t m g, Row w4 b t m g → t ≠ 53 → t ≠ 3 → ¬ XT p bLog bCal b := fun b t m g h h1 h2 e => by
    rcases e with ((e | e | e) | e) | e | e
    · exact row_ne_map h hk4.map e
    · exact row_ne_map h hb4'.map e
    · exact row_ne_map h hu4.map e
    · exact row_ne_map h hM4.map e
    · exact row_ne_row h hlog4 h1 e
    · exact row_ne_row h hcal4 h2 e
  have hL5 : Lk w5 bL p := Row.chg hL4 c5 (hrow5 _ _ _ _ hL4 (by decide) (by decide))
  have hRt5 : Routes w5 bR n (rsOf raw) := Row.chg hRt4 c5 (hrow5 _ _ _ _ hRt4 (by decide) (by decide))
  have hO5 := hO4.chg c5 (hrow5 _ _ _ _ hO4 (by decide) (by decide))
  have hD5 := hD4.chg c5 (hrow5 _ _ _ _ hD4 (by decide) (by decide))
  have hmk5 : Enc w5 bmk s.f := Row.chg hmk4 c5 (hrow5 _ _ _ _ hmk4 (by decide) (by decide))
  have hmb5 : Enc w5 bmb s.g := Row.chg hmb4 c5 (hrow5 _ _ _ _ hmb4 (by decide) (by decide))
  have hmu5 : Enc w5 bmu s.u := Row.chg hmu4 c5 (hrow5 _ _ _ _ hmu4 (by decide) (by decide))
  have hxt : ∀ x, x < B0 → ¬ XT p bLog bCal x := fun x hx e => by
    have h2 := hx3 x hx
    rcases e with (e | e) | e | e
    · exact h2.1 e
    · exact h2.2 e
    · omega
    · omega
  have hB5 : Bools w5 vown os := hB4.chg c5 fun b o m c e => hxt b (hlv b o m c e)
  have hZ5 : ZR w5 rv n raw := hZ4.chg c5 fun b o m c e => hxt b (hlr b o m c e)
  have hdm : ∃ es c, w4.heap[p.dead]? = some (Obj.map es c) := ⟨_, _, hdd4⟩
  have hdd5 : IsDead w5 p.dead d := hdd4.chg c5 fun e => by
    rcases e with ((e | e | e) | e) | e | e
    · exact hAp.kd e.symm
    · exact hAp.bd e.symm
    · exact hAp.ud e.symm
    · exact hdl e
    · exact row_ne_map hlog4 hdm e.symm
    · exact row_ne_map hcal4 hdm e.symm
  have cw5 : Chg (fun b => B0 ≤ b) w w5 := (c04.mono fun _ _ e => e.elim).comp c5 fun x _ e => by
    have := hF.known; have := hF.shownBy; have := hF.unheard; have := hF.linked
    rcases e with ((e | e | e) | e) | e | e <;> omega
  obtain ⟨ql, cl, rfl⟩ := owns_slice hown5
  refine wp_seq ?_
  refine sq ?_
  refine st0 hA (wn rfl) rfl rfl (x_load rfl (hlog5.load1 ag53 (by omega))) fun a hA => ?_
  refine st0 hA (wn rfl) rfl rfl (x_len rfl Yba.underlying53) fun a hA => ?_
  refine st0 hA (wn rfl) rfl rfl (x_mv rfl) fun a hA => ?_
  refine st0 hA (wn rfl) rfl rfl (x_bin rfl rfl (neq3F _ _ _ _ (by simp))) fun a hA => ?_
  refine fin ?_
  refine cdfs hA rfl ?_
  refine cut (fun a' w' => At a' 499 [(2, rv), (3, .bool whole), (6, .bool plc), (7, .int .u8 (p.lo : Int)), (8, .int .u8 (p.wd : Int)), (14, .pointer (some ⟨bOwn, 0, none⟩)), (21, .int .i64 (n : Int)), (22, .int .u16 fr), (23, .int .u16 p.self), (24, .pointer (some ⟨bD, 0, none⟩)), (26, .pointer (some ⟨bL, 0, none⟩)), (27, .pointer (some ⟨bmk, 0, none⟩)), (28, .pointer (some ⟨bmb, 0, none⟩)), (29, .pointer (some ⟨bmu, 0, none⟩)), (36, .slice (some ⟨bR, 0, none⟩) n n), (34, .int .i64 ((psD d).length : Int))] ∧ Chg (fun _ => False) w5 w') ?_ ?_
  · refine sq ?_
    refine st0 hA (wn rfl) rfl rfl (x_as rfl) fun a hA => ?_
    refine fin ?_
    refine lpb (fun m a' w' => ∃ k : Nat, k + m = n ∧ At a' 499 [(2, rv), (3, .bool whole), (6, .bool plc), (7, .int .u8 (p.lo : Int)), (8, .int .u8 (p.wd : Int)), (14, .pointer (some ⟨bOwn, 0, none⟩)), (21, .int .i64 (n : Int)), (22, .int .u16 fr), (23, .int .u16 p.self), (24, .pointer (some ⟨bD, 0, none⟩)), (26, .pointer (some ⟨bL, 0, none⟩)), (27, .pointer (some ⟨bmk, 0, none⟩)), (28, .pointer (some ⟨bmb, 0, none⟩)), (29, .pointer (some ⟨bmu, 0, none⟩)), (36, .slice (some ⟨bR, 0, none⟩) n n), (34, .int .i64 ((psD d).length : Int)), (39, .pointer (some ⟨bLog, 0, none⟩)), (42, .int .i64 (k : Int))] ∧ Chg (fun _ => False) w5 w') n ⟨0, by omega, hA.pick [2, 3, 6, 7, 8, 14, 21, 22, 23, 24, 26, 27, 28, 29, 36, 34, 39, 42], Chg.refl _ _⟩ ?_
    rintro m a w6 ⟨k, hkm, hA, c6⟩
    refine wp_seq ?_
    by_cases hlt : k < n
    case neg =>
      refine sq ?_
      refine st0 hA (wn rfl) rfl rfl (x_mv rfl) fun a hA => ?_
      refine st0 hA (wn rfl) rfl rfl (x_mv rfl) fun a hA => ?_
      refine st0 hA (wn rfl) rfl rfl (x_bin rfl rfl (lss3F _ _ _ _ (by omega))) fun a hA => ?_
      refine fin ?_
      exact cdfe hA rfl (x_th (xin (n_th ⟨hA.pick [2, 3, 6, 7, 8, 14, 21, 22, 23, 24, 26, 27, 28, 29, 36, 34], c6⟩)))
    refine sq ?_
    refine st0 hA (wn rfl) rfl rfl (x_mv rfl) fun a hA => ?_
    refine st0 hA (wn rfl) rfl rfl (x_mv rfl) fun a hA => ?_
    refine st0 hA (wn rfl) rfl rfl (x_bin rfl rfl (lss3T _ _ _ _ (by omega))) fun a hA => ?_
    refine fin ?_
    refine cdts hA rfl ?_
    have c6' : Chg (fun _ => False) w5 w6.drew := c6.drew
    have hlog6 : Row w6.drew bLog 53 1 (fun _ => .slice ql n cl) := hlog5.chg c6' id
    have hown6 := owns_keep hown5 c6' fun _ _ => id
    obtain ⟨g, cap, he, hload⟩ := own_route hown6 hlt
    simp only [Value.slice.injEq] at he
    have hA7 := hA
    obtain ⟨rfl, _, rfl⟩ := he
    have hRt6 : Routes w6.drew bR n (rsOf raw) := Row.chg hRt5 c6' id
    have hA : At a 499 [(2, rv), (3, .bool whole), (6, .bool plc), (7, .int .u8 (p.lo : Int)), (8, .int .u8 (p.wd : Int)), (14, .pointer (some ⟨bOwn, 0, none⟩)), (21, .int .i64 (n : Int)), (22, .int .u16 fr), (23, .int .u16 p.self), (24, .pointer (some ⟨bD, 0, none⟩)), (26, .pointer (some ⟨bL, 0, none⟩)), (27, .pointer (some ⟨bmk, 0, none⟩)), (28, .pointer (some ⟨bmb, 0, none⟩)), (29, .pointer (some ⟨bmu, 0, none⟩)), (36, .slice (some ⟨bR, 0, none⟩) n n), (34, .int .i64 ((psD d).length : Int)), (39, .pointer (some ⟨bLog, 0, none⟩)), (42, .int .i64 (k : Int))] := hA7.pick [2, 3, 6, 7, 8, 14, 21, 22, 23, 24, 26, 27, 28, 29, 36, 34, 39, 42]
    refine sqb ?_
    refine wp_seq ?_
    refine drawn_keep [.slice (some ⟨g, 0, none⟩) n cl, .int .i64 (k : Int), .pointer (some ⟨g, 0 + k * 36, none⟩), routeV (rsOf raw k).1 ((rsOf raw k).2 : Nat), .slice (some ⟨bR, 0, none⟩) n n, .int .i64 (k : Int), .pointer (some ⟨bR, 0 + k * 36, none⟩), routeV (rsOf raw k).1 ((rsOf raw k).2 : Nat), .bool false] (· = w6.drew) hA mixed (by kernel_rfl) rfl ?_ ?_
    · refine each_cons (do0 rfl [] rfl (wn rfl) fun w hS => (x_load rfl (by subst hS; exact hlog6.load1 ag53 (by omega)))) ?_
      refine each_cons (do0 rfl [] rfl (wn rfl) fun w hS => (x_mv rfl)) ?_
      refine each_cons (do0 rfl [(218, 0), (219, 1)] rfl (wn rfl) fun w hS => (x_idx rfl rfl (idxS _ _ _ _ _ _ Yba.underlying53 sz55 hlt))) ?_
      refine each_cons (do0 rfl [(220, 2)] rfl (wn rfl) fun w hS => (x_load rfl (by subst hS; exact hload))) ?_
      refine each_cons (do0 rfl [] rfl (wn rfl) fun w hS => (x_mv rfl)) ?_
      refine each_cons (do0 rfl [] rfl (wn rfl) fun w hS => (x_mv rfl)) ?_
      refine each_cons (do0 rfl [(222, 4), (223, 5)] rfl (wn rfl) fun w hS => (x_idx rfl rfl (idxS _ _ _ _ _ _ Yba.underlying53 sz55 hlt))) ?_
      refine each_cons (do0 rfl [(224, 6)] rfl (wn rfl) fun w hS => (x_load rfl (by subst hS; exact hRt6.route hlt))) ?_
      refine each_cons (do0 rfl [(221, 3), (225, 7)] rfl (wn rfl) fun w hS => (x_bin rfl rfl (by
        have := neq55 (.tmp 221) (.tmp 225) (p := ((rsOf raw k).2 : Nat)) (q := ((rsOf raw k).2 : Nat)) (hraw k hlt).1 (hraw k hlt).1
        rw [decide_eq_true rfl, decide_eq_true rfl] at this
        exact this))) ?_
      exact each_nil
    intro a w7 hA e7
    subst e7
    refine n_th ?_
    refine cdfz hA rfl (n_in (n_th ?_))
    refine rg ?_
    refine st0 hA (wn rfl) rfl rfl (x_mv rfl) fun a hA => ?_
    refine st0 hA (wn rfl) rfl rfl (x_bin rfl rfl (add3N _ _ _ (by omega))) fun a hA => ?_
    refine st0 hA (wn rfl) rfl rfl (x_as rfl) fun a hA => ?_
    exact fin0 (n_th ⟨m - 1, by omega, k + 1, by omega, hA.pick [2, 3, 6, 7, 8, 14, 21, 22, 23, 24, 26, 27, 28, 29, 36, 34, 39, 42], c6'⟩)
  rintro a w6 ⟨hA, c6⟩
  refine wp_seq ?_
  have hL6 : Lk w6 bL p := Row.chg hL5 c6 id
  have hdd6 := hdd5.chg c6 id
  refine sq ?_
  refine st0 hA (wn rfl) rfl rfl (x_mv rfl) fun a hA => ?_
  refine st0 hA (wn rfl) rfl rfl (x_nil rfl) fun a hA => ?_
  refine st0 hA (wn rfl) rfl rfl (x_fld rfl (fld49_9 _ _ _)) fun a hA => ?_
  refine st0 hA (wn rfl) rfl rfl (x_load rfl (Lk.one hL6 ag46 5 _ (by omega) rfl)) fun a hA => ?_
  refine st0 hA (wn rfl) rfl rfl (x_blt rfl (blt_dlen hdd6 _ _)) fun a hA => ?_
  refine st0 hA (wn rfl) rfl rfl (x_mv rfl) fun a hA => ?_
  refine st0 hA (wn rfl) rfl rfl (x_bin rfl rfl (neq3F _ _ _ _ (by simp))) fun a hA => ?_
  refine fin ?_
  refine cdfs hA rfl ?_
  have hx4 : ∀ x, x < B0 → ¬ X4 bmk bmb bmu x := fun x hx e => by
    have := hF.k; have := hF.b; have := hF.u
    rcases e with e | e | e <;> omega
  exact law3 bL bR bOwn bD bmk bmb bmu n _ (N + n) p fr whole plc rv raw d os vown s R hn hlo hwd hraw hol hplc hself hfr hgf hgg hgu hs h12 h13 h23 (fun b o m c e => hx4 b (hlv b o m c e)) (fun b o m c e => hx4 b (hlr b o m c e)) a w6 (hA.pick [2, 3, 6, 7, 8, 14, 21, 22, 23, 24, 26, 27, 28, 29, 36]) hL6 (Row.chg hRt5 c6 id) (hO5.chg c6 id) (hB5.chg c6 fun _ _ _ _ _ => id) (hZ5.chg c6 fun _ _ _ _ _ => id) (hD5.chg c6 id) (Row.chg hmk5 c6 id) (Row.chg hmb5 c6 id) (Row.chg hmu5 c6 id) (k5.chg c6 id) (b5.chg c6 id) (u5.chg c6 id) (l5.chg c6) fun w7 c7 => hR w7 ((cw5.comp c6 fun _ _ e => e.elim).comp c7 fun x _ e => by
    have := hF.k; have := hF.b; have := hF.u
    rcases e with e | e | e <;> omega)
end Go.Proofs.Ybulkcrtu
