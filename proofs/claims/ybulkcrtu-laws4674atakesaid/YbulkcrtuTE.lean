import Derived.Test.YbulkcrtuTD
import Derived.Laws.MakeOwn
namespace Go.Proofs.Ybulkcrtu
open Go.RowKit Go.ChangeMaps Go.MapKept

theorem mk_slice {t e size bytes : Nat} {z : Value} (ht : Yba.prog.underlying t = some (.slice e)) (hti : (Yba.prog.info? e).map (fun i => (i.zero, i.size, i.bytes)) = some (some z, size, bytes)) (hz : z.cells.size = size) (hs : 0 < size) (hs' : size ≤ 1000) (hb : bytes ≤ 1000) (n : Nat) (hn : n ≤ 1000) (w : World) :
    ∃ w', (Instr.makeSlice t (.int .i64 (n : Int)) (.int .i64 (n : Int))).run Yba.prog w = .ok (.slice (some ⟨w.heap.size, 0, none⟩) n n) w' ∧ Below w.heap.size w w' ∧ w'.heap.size = w.heap.size + 1 ∧ Row w' w.heap.size e (size * n) (fun i => (z.cells.toList).getD (i % size) undef) := by
  obtain ⟨i, hi, h2, h3, h4⟩ := tinfo hti
  have hb1 : n * size ≤ 1000 * 1000 := Nat.mul_le_mul hn hs'
  have hb2 : bytes * n ≤ 1000 * 1000 := Nat.mul_le_mul hb hn
  have hr := run_makeSlice (P := Yba.prog) w t e i z ht hi h2 .i64 .i64 (n : Int) (n : Int) (by omega) (Int.le_refl _) (by rw [Int.toNat_natCast, h3]; omega) (by rw [h4, ← Int.natCast_mul]; omega) (by omega)
  rw [Int.toNat_natCast, h3] at hr
  refine ⟨_, hr, below_alloc _ _, by simp, madeCells z.cells (n * size), heap1a _ _, ?_, fun j hj => ?_⟩
  · simp [madeCells, Nat.mul_comm]
  · have hj' : j < n * size := by rw [Nat.mul_comm]; exact hj
    have hm : j % size < z.cells.size := by rw [hz]; exact Nat.mod_lt _ hs
    have e : (madeCells z.cells (n * size))[j]? = some (z.cells[j % size]!) := by
      unfold madeCells
      rw [Array.getElem?_map, hz]
      simp [hj']
    rw [e, getElem!_pos z.cells (j % size) hm]
    show some z.cells[j % size] = some (z.cells.toList.getD (j % size) undef)
    rw [List.getD_eq_getElem?_getD, Array.getElem?_toList, Array.getElem?_eq_getElem hm]
    rfl
theorem Ints.chgF {w w' : World} {v : Value} {xs : List Int} (h : Ints w v xs) (hc : Chg (fun _ => False) w w') : Ints w' v xs := by
  obtain ⟨p, cc, h1, h2⟩ := h
  refine ⟨p, cc, h1, fun k x hk => ?_⟩
  obtain ⟨b, o, h3, h4⟩ := h2 k x hk
  exact ⟨b, o, h3, (World.cell?_of_block (hc.block b (World.block_lt_of_cell? w _ h4) id)).trans h4⟩
theorem ownIdx_mem (os : List Bool) (n : Nat) : (∀ o ∈ ownIdx os n, 0 ≤ o ∧ o ≤ n) ∧ (ownIdx os n).length ≤ n := by
  unfold ownIdx
  refine ⟨fun o ho => ?_, ?_⟩
  · obtain ⟨i, hi, rfl⟩ := List.mem_map.1 ho
    have := List.mem_range.1 (List.mem_filter.1 hi).1
    omega
  · rw [List.length_map]
    exact Nat.le_trans (List.length_filter_le _ _) (by simp)
set_option maxRecDepth 100000 in
set_option maxHeartbeats 2000000 in
/-- The second loop, and what follows it. -/
theorem take2 (bL bF bw bn bR n nl N : Nat) (p : LkP) (fr : Int) (whole : Bool) (rs : Nat → Nat × Nat) (d : Nat → Bool) (os : List Bool) (ov : Value) (s : TS) (R : Ending → World → Prop)
    (hn : n ≤ 300) (hnl : nl ≤ 1000) (hN : N ≤ 400) (hrs : ∀ i, i < n → (rs i).1 ≤ 255 ∧ 1 ≤ (rs i).2 ∧ (rs i).2 ≤ 4) (hlo : p.lo ≤ 255) (hwd : p.wd ≤ 255) (hAp : Apart p) (hs : s.kept = [])
    (a : Act) (w : World) (hA : At a 255 [(0, .pointer (some ⟨bL, 0, none⟩)), (5, .pointer (some ⟨bF, 0, none⟩)), (8, .slice (some ⟨bR, 0, none⟩) n n), (9, .pointer (some ⟨bw, 0, none⟩)), (10, .pointer (some ⟨bn, 0, none⟩)), (11, ov)])
    (hE : Env w bL bF bw bn bR n p fr whole rs) (hO : Ints w ov (ownIdx os n)) (hD : IsDead w p.dead d) (hk : MapP w p.known N s.f) (hb : MapP w p.shown N s.g) (hu : MapP w p.unheard N s.u) (hM : LinkM w p.linked nl 0 [] fr)
    (hR : ∀ w', Chg (fun b => X3 p b ∨ b = p.linked) w w' → MapP w' p.known (N + n) (runR (ctxOf p d fr) rs s n).f → MapP w' p.shown (N + n) (runR (ctxOf p d fr) rs s n).g → MapP w' p.unheard (N + n) (runR (ctxOf p d fr) rs s n).u →
      LinkM w' p.linked (nl + (runR (ctxOf p d fr) rs s n).kept.length) 0 (runL (vouchF os n whole) n whole (runR (ctxOf p d fr) rs s n).kept (fun i => (rs i).1) (runR (ctxOf p d fr) rs s n).kept.length) fr → R (.returned (.tuple #[])) w') :
    (dropS 5 (Yba.f9.body.getD .skip)).wp Yba.prog (bodyPost Yba.prog Yba.f9 R) a w := by
  obtain ⟨ho1, ho2⟩ := ownIdx_mem os n
  obtain ⟨w1, hr1, m1⟩ := mk_alloc _ al126 w
  obtain ⟨w2, hr2, u2, r2⟩ := m1.row.store1 (ty := 126) (o := 0) (stepV bw bn) sz126 rfl (by simp)
  have hs1 : w1.heap.size = w.heap.size + 1 := m1.2.1
  have c12 : Chg (fun _ => False) w w2 := (Chg.F m1.1).comp (Chg.of_up (X := (· = w.heap.size)) u2 rfl) fun x hx e => by
    have : x = w.heap.size := e
    omega
  obtain ⟨w3, hr3, b3, hs3, r3⟩ := mk_slice (t := 23) (e := 4) Yba.underlying23 ti4 rfl (by omega) (by omega) (by omega) n (by omega) w2
  have rs2 : Row w2 w.heap.size 126 1 (fun _ => stepV bw bn) := r2.ext fun i hi => by
    have : i < 1 := hi
    rw [if_pos (by omega)]
  have hs2 : w2.heap.size = w.heap.size + 1 := by rw [u2.size, hs1]
  refine sq ?_
  refine st0 hA (wn rfl) rfl rfl (x_mkfunc rfl) fun a hA => ?_
  refine st hA (wn rfl) rfl rfl (x_alloc ⟨w1, hr1, rfl⟩) fun a w1' hA e => ?_
  subst e
  refine stn hA (wn rfl) rfl (x_store rfl rfl ⟨w2, hr2, rfl⟩) fun w2' e => ?_
  subst e
  refine fin ?_
  have hE2 : Env w2 bL bF bw bn bR n p fr whole rs := hE.keep c12 fun _ _ _ _ _ => id
  refine sq ?_
  refine st0 hA (wn rfl) rfl rfl (x_load rfl (hE2.len.load1 ag3 (by omega))) fun a hA => ?_
  refine st hA (wn rfl) rfl rfl (x_mkslice rfl rfl ⟨w3, hr3, rfl⟩) fun a w3' hA e => ?_
  subst e
  refine st0 hA (wn rfl) rfl rfl (x_as rfl) fun a hA => ?_
  refine fin ?_
  have c13 : Chg (fun _ => False) w w3 := c12.trans (Chg.F b3)
  have rs3 := rs2.below b3 (by omega)
  have rv3 : Row w3 w2.heap.size 4 n (fun i => .bool (if i < 0 then vouchF os n whole i else false)) := by
    rw [Nat.one_mul] at r3
    refine r3.ext fun i hi => ?_
    rw [if_neg (by omega), Nat.mod_one]
    rfl
  have hE3 : Env w3 bL bF bw bn bR n p fr whole rs := hE.keep c13 fun _ _ _ _ _ => id
  generalize hbs : w.heap.size = bs at *
  generalize hbv : w2.heap.size = bV at *
  refine wp_seq ?_
  refine sq ?_
  refine st0 hA (wn rfl) rfl rfl (x_load rfl (hE3.len.load1 ag3 (by omega))) fun a hA => ?_
  refine st0 hA (wn rfl) rfl rfl (x_mv rfl) fun a hA => ?_
  refine fin ?_
  have hdone : ∀ a w', At a 255 [(0, .pointer (some ⟨bL, 0, none⟩)), (5, .pointer (some ⟨bF, 0, none⟩)), (8, .slice (some ⟨bR, 0, none⟩) n n), (9, .pointer (some ⟨bw, 0, none⟩)), (10, .pointer (some ⟨bn, 0, none⟩)), (15, .slice (some ⟨bV, 0, none⟩) n n)] → Chg (fun _ => False) w w' → Row w' bV 4 n (fun i => .bool (vouchF os n whole i)) → (dropS 8 (Yba.f9.body.getD .skip)).wp Yba.prog (bodyPost Yba.prog Yba.f9 R) a w' := fun a w' h1 h2 h3 =>
    take3 bL bF bw bn bR bV n nl N p fr whole rs d (vouchF os n whole) s R hn hnl hN hrs hlo hwd hAp hs a w' h1 (hE.keep h2 fun _ _ _ _ _ => id) h3 (hD.chg h2 id) (hk.chg h2 id) (hb.chg h2 id) (hu.chg h2 id) (hM.chg h2) fun w'' hc => hR w'' (Chg.trans (h2.mono fun _ _ h => h.elim) hc)
  refine lpb (fun m a w' => ∃ k : Nat, k + m = n ∧ At a 255 [(0, .pointer (some ⟨bL, 0, none⟩)), (5, .pointer (some ⟨bF, 0, none⟩)), (8, .slice (some ⟨bR, 0, none⟩) n n), (9, .pointer (some ⟨bw, 0, none⟩)), (10, .pointer (some ⟨bn, 0, none⟩)), (11, ov), (14, .pointer (some ⟨bs, 0, none⟩)), (15, .slice (some ⟨bV, 0, none⟩) n n), (52, .int .i64 (n : Int)), (53, .int .i64 (k : Int))] ∧
    Chg (fun _ => False) w w' ∧ Row w' bs 126 1 (fun _ => stepV bw bn) ∧ Row w' bV 4 n (fun i => .bool (if i < k then vouchF os n whole i else false))) n ⟨0, by omega, hA.pick [0, 5, 8, 9, 10, 11, 14, 15, 52, 53], c13, rs3, rv3⟩ ?_
  rintro m a w4 ⟨k, hkm, hA, hc4, rs4, rv4⟩
  by_cases hlt : k < n
  case neg =>
    have hkn : k = n := by omega
    subst hkn
    refine sq ?_
    refine st0 hA (wn rfl) rfl rfl (x_bin rfl rfl (lss3F _ _ _ _ (by omega))) fun a hA => ?_
    refine fin ?_
    refine sqfe hA rfl ?_
    refine x_th (xin (n_th (hdone _ _ (hA.pick [0, 5, 8, 9, 10, 15]) hc4 (rv4.ext fun i hi => by rw [if_pos hi]))))
  obtain ⟨w5, hr5, m5⟩ := mk_alloc _ al3 w4
  obtain ⟨w6, hr6, u6, r6⟩ := m5.row.store1 (ty := 3) (o := 0) (.int .i64 (k : Int)) sz3 rfl (by simp)
  have hs5 : w5.heap.size = w4.heap.size + 1 := m5.2.1
  have c46 : Chg (fun _ => False) w4 w6 := (Chg.F m5.1).comp (Chg.of_up (X := (· = w4.heap.size)) u6 rfl) fun x hx e => by
    have : x = w4.heap.size := e
    omega
  have ri6 : Row w6 w4.heap.size 3 1 (fun _ => .int .i64 (k : Int)) := r6.ext fun i hi => by
    have : i < 1 := hi
    rw [if_pos (by omega)]
  have hc6 : Chg (fun _ => False) w w6 := hc4.trans c46
  have hE6 : Env w6 bL bF bw bn bR n p fr whole rs := hE.keep hc6 fun _ _ _ _ _ => id
  have rs6 := rs4.chg c46 id
  have rv6 := rv4.chg c46 id
  have hO6 := hO.chgF hc6
  refine sq ?_
  refine st0 hA (wn rfl) rfl rfl (x_bin rfl rfl (lss3T _ _ _ _ (by omega))) fun a hA => ?_
  refine fin ?_
  refine sqts hA rfl ?_
  refine sqb ?_
  refine sq ?_
  refine st0 hA (wn rfl) rfl rfl (x_mv rfl) fun a hA => ?_
  refine st hA (wn rfl) rfl rfl (x_alloc ⟨w5, hr5, rfl⟩) fun a w5' hA e => ?_
  subst e
  refine stn hA (wn rfl) rfl (x_store rfl rfl ⟨w6, hr6, rfl⟩) fun w6' e => ?_
  subst e
  refine fin ?_
  generalize hbi : w4.heap.size = bi at *
  refine cut (fun a' w' => (At a' 255 [(0, .pointer (some ⟨bL, 0, none⟩)), (5, .pointer (some ⟨bF, 0, none⟩)), (8, .slice (some ⟨bR, 0, none⟩) n n), (9, .pointer (some ⟨bw, 0, none⟩)), (10, .pointer (some ⟨bn, 0, none⟩)), (11, ov), (14, .pointer (some ⟨bs, 0, none⟩)), (15, .slice (some ⟨bV, 0, none⟩) n n), (52, .int .i64 (n : Int)), (53, .int .i64 (k : Int)), (16, .pointer (some ⟨bi, 0, none⟩))] ∧ w6 = w') ∧ ¬ (k + 1 = n ∧ whole = false)) ?_ ?_
  · refine sq ?_
    refine st0 hA (wn rfl) rfl rfl (x_load rfl (ri6.load1 ag3 (by omega))) fun a hA => ?_
    refine st0 hA (wn rfl) rfl rfl (x_bin rfl rfl (add3N _ _ _ (by omega))) fun a hA => ?_
    refine st0 hA (wn rfl) rfl rfl (x_load rfl (hE6.len.load1 ag3 (by omega))) fun a hA => ?_
    by_cases hb1 : k + 1 = n
    · refine st0 hA (wn rfl) rfl rfl (x_bin rfl rfl (eql3T _ _ _ _ (by omega))) fun a hA => ?_
      refine st0 hA (wn rfl) rfl rfl (x_mv rfl) fun a hA => ?_
      refine st0 hA (wy rfl rfl rfl) rfl rfl (x_load rfl (hE6.wraps.load1 ag4 (by omega))) fun a hA => ?_
      refine st0 hA (wy rfl rfl rfl) rfl rfl (x_not rfl) fun a hA => ?_
      cases whole with
      | false =>
        refine st0 hA (wn rfl) rfl rfl (x_pick rfl rfl) fun a hA => ?_
        refine fin ?_
        refine cdte hA rfl (xout (x_th (x_th (xin (n_th (hdone _ _ (hA.pick [0, 5, 8, 9, 10, 15]) hc6 (rv6.ext fun i hi => ?_)))))) rfl)
        by_cases hik : i < k
        · rw [if_pos hik]
        · rw [if_neg hik]
          have : i + 1 = n := by omega
          unfold vouchF
          rw [decide_eq_true this]
          simp
      | true =>
        refine st0 hA (wn rfl) rfl rfl (x_pick rfl rfl) fun a hA => ?_
        refine fin ?_
        exact cdfs hA rfl ⟨⟨hA.pick [0, 5, 8, 9, 10, 11, 14, 15, 52, 53, 16], rfl⟩, by simp⟩
    · refine st0 hA (wn rfl) rfl rfl (x_bin rfl rfl (eql3F _ _ _ _ (by omega))) fun a hA => ?_
      refine st0 hA (wn rfl) rfl rfl (x_mv rfl) fun a hA => ?_
      refine sts hA (sh rfl rfl rfl rfl) rfl rfl fun a hA => ?_
      refine sts hA (sh rfl rfl rfl rfl) rfl rfl fun a hA => ?_
      refine st0 hA (wn rfl) rfl rfl (x_pick rfl rfl) fun a hA => ?_
      refine fin ?_
      exact cdfs hA rfl ⟨⟨hA.pick [0, 5, 8, 9, 10, 11, 14, 15, 52, 53, 16], rfl⟩, fun h => hb1 h.1⟩
  rintro a _ ⟨⟨hA, rfl⟩, hnb⟩
  have hany : (ownIdx os n).any (fun o => near (k : Int) o (n : Int) whole) = vouchF os n whole k := by
    unfold vouchF
    have : (decide (k + 1 = n) && !whole) = false := by
      by_cases h1 : k + 1 = n
      · cases whole with
        | false => exact absurd ⟨h1, rfl⟩ hnb
        | true => simp
      · simp [h1]
    rw [this]
    simp
  have hcall : ∀ wx, Below w6.drew.heap.size w6.drew wx → Calls Yba.prog 20 #[ov, nearV bs bi bn] wx fun e w' => e = .returned (.bool (vouchF os n whole k)) ∧ Below w6.drew.heap.size w6.drew w' := fun wx hx => by
    have := any_near (k : Int) (n : Int) whole bs bi bw bn ov (ownIdx os n) wx (by omega) (fun o ho => by have := ho1 o ho; omega) (by omega) (by omega) (Ints.below (w := w6.drew) hO6 hx) (Row.below (w := w6.drew) rs6 hx rs6.lt) (Row.below (w := w6.drew) ri6 hx ri6.lt) (Row.below (w := w6.drew) hE6.wraps hx hE6.wraps.lt) (Row.below (w := w6.drew) hE6.len hx hE6.len.lt)
    rw [hany] at this
    exact this.mono fun e w' h => ⟨h.1, hx.trans (h.2.mono hx.size)⟩
  refine drawn_last [.slice (some ⟨bV, 0, none⟩) n n, .int .i64 (k : Int), ov, nearV bs bi bn, .bool (vouchF os n whole k), .pointer (some ⟨bV, 0 + k * 1, none⟩), undef] 6 (fun w' => Below w6.drew.heap.size w6.drew w')
    (fun w' => ∃ wx, Below w6.drew.heap.size w6.drew wx ∧ Up wx w' bV ∧ Row w' bV 4 n (fun i => if i = 0 + k * 1 then .bool (vouchF os n whole k) else .bool (if i < k then vouchF os n whole i else false))) hA mixed (by kernel_rfl) rfl (by kernel_rfl) (Below.refl _ _) ?_ ?_
  · refine each_cons (do0 rfl [] rfl (wn rfl) fun w hS => (x_mv rfl)) ?_
    refine each_cons (do0 rfl [] rfl (wn rfl) fun w hS => (x_load rfl ((Row.below (w := w6.drew) ri6 hS ri6.lt).load1 ag3 (by omega)))) ?_
    refine each_cons (do0 rfl [] rfl (wn rfl) fun w hS => (x_mv rfl)) ?_
    refine each_cons (do0 rfl [] rfl (wn rfl) fun w hS => (x_mkfunc rfl)) ?_
    refine each_cons (do1 rfl [(66, 2), (67, 3)] rfl (wn rfl) fun w hS => (x_call (cap := []) rfl rfl c20 (hcall w hS))) ?_
    refine each_cons (do0 rfl [(64, 0), (65, 1)] rfl (wn rfl) fun w hS => (x_idx rfl rfl (idxS _ _ _ _ _ _ Yba.underlying23 sz4 hlt))) ?_
    refine each_cons (do1 rfl [(69, 5), (68, 4)] rfl (wn rfl) fun w hS => (x_store rfl rfl (by
      obtain ⟨w', h1, h2, h3⟩ := (Row.below (w := w6.drew) rv6 hS rv6.lt).store1 (ty := 4) (o := 0 + k * 1) (.bool (vouchF os n whole k)) sz4 rfl (by omega)
      exact ⟨w', h1, w, hS, h2, h3⟩))) ?_
    exact each_nil
  rintro a w7 hA ⟨wx, hbx, hux, hrx⟩
  refine n_in (n_th ?_)
  refine rg ?_
  refine st0 hA (wn rfl) rfl rfl (x_bin rfl rfl (add3N _ _ _ (by omega))) fun a hA => ?_
  refine st0 hA (wn rfl) rfl rfl (x_mv rfl) fun a hA => ?_
  have cx : Chg (fun _ => False) w6 wx := (Chg.refl _ w6).drew.trans (Chg.F hbx)
  have hlv := rv6.lt
  have hbw : w.heap.size ≤ bV := by omega
  have cf : Chg (fun _ => False) w w7 := (hc6.trans cx).comp (Chg.of_up (X := (· = bV)) hux rfl) fun x hx e => by
    have : x = bV := e
    omega
  refine fin0 (n_th ⟨m - 1, by omega, k + 1, by omega, hA.pick [0, 5, 8, 9, 10, 11, 14, 15, 52, 53], cf, (rs6.chg cx id).up hux (by omega), hrx.ext fun i hi => ?_⟩)
  by_cases e : i = 0 + k * 1
  · rw [if_pos e, if_pos (by omega)]
    have : i = k := by omega
    rw [this]
  · rw [if_neg e]
    by_cases e2 : i < k
    · rw [if_pos e2, if_pos (by omega)]
    · rw [if_neg e2, if_neg (by omega)]
end Go.Proofs.Ybulkcrtu
