import Derived.Test.YbulkcrtuTK
namespace Go.Proofs.Ybulkcrtu
open Go.RowKit Go.ChangeMaps Go.MapKept

theorem LinkM.keepX {w w' : World} {b n : Nat} {ps : List (Nat × Nat)} {fr : Int} (h : LinkM w b n 0 ps fr) {X : Nat → Prop} (hc : Chg X w w') (hx : ¬ X b) (hx37 : ∀ v, w.ownsRow 0 37 4 v 1 (apC fr) → ∀ c, v.ownBlock = some c → ¬ X c) : LinkM w' b n 0 ps fr := by
  obtain ⟨m, h1, h2, h3⟩ := h
  exact ⟨m, h1.chg hc hx, h2, fun q v hq1 hq2 hq => owns_keep (h3 q v hq1 hq2 hq) hc (hx37 v (h3 q v hq1 hq2 hq))⟩
set_option maxRecDepth 100000 in
set_option maxHeartbeats 2000000 in
/-- The law's model of the maps, and what follows. -/
theorem law3 (bL bR bOwn bD bmk bmb bmu n nl N : Nat) (p : LkP) (fr : Int) (whole plc : Bool) (rv : Value) (raw : Nat → Nat × Nat) (d : Nat → Bool) (os : List Bool) (vown : Value) (s : TS) (R : Ending → World → Prop)
    (hn : n ≤ 300) (hlo : p.lo ≤ 255) (hwd : p.wd ≤ 255) (hraw : ∀ k, k < n → (raw k).1 ≤ 255 ∧ (raw k).2 ≤ 255) (hol : os.length ≤ 9223372036854775807) (hplc : plc = decide (p.purpose = 1)) (hself : 0 ≤ p.self ∧ p.self ≤ 9) (hfr : 0 ≤ fr ∧ fr ≤ 9) (hgf : Good s.f) (hgg : Good s.g) (hgu : Good s.u) (hs : s.kept = [])
    (h12 : bmk ≠ bmb) (h13 : bmk ≠ bmu) (h23 : bmb ≠ bmu)
    (hlv : ∀ b o n c, vown = .slice (some ⟨b, o, none⟩) n c → ¬ X4 bmk bmb bmu b) (hlr : ∀ b o n c, rv = .slice (some ⟨b, o, none⟩) n c → ¬ X4 bmk bmb bmu b)
    (a : Act) (w : World) (hA : At a 499 [(2, rv), (3, .bool whole), (6, .bool plc), (7, .int .u8 (p.lo : Int)), (8, .int .u8 (p.wd : Int)), (14, .pointer (some ⟨bOwn, 0, none⟩)), (21, .int .i64 (n : Int)), (22, .int .u16 fr), (23, .int .u16 p.self), (24, .pointer (some ⟨bD, 0, none⟩)), (26, .pointer (some ⟨bL, 0, none⟩)), (27, .pointer (some ⟨bmk, 0, none⟩)), (28, .pointer (some ⟨bmb, 0, none⟩)), (29, .pointer (some ⟨bmu, 0, none⟩)), (36, .slice (some ⟨bR, 0, none⟩) n n)]) (hL : Lk w bL p) (hRt : Routes w bR n (rsOf raw)) (hO : Row w bOwn 23 1 (fun _ => vown)) (hB : Bools w vown os) (hZ : ZR w rv n raw) (hD : Row w bD 26 5 (fun i => .bool (d i)))
    (hmk : Enc w bmk s.f) (hmb : Enc w bmb s.g) (hmu : Enc w bmu s.u)
    (hk : MapP w p.known N (runR (ctxOf p d fr) (rsOf raw) s n).f) (hb : MapP w p.shown N (runR (ctxOf p d fr) (rsOf raw) s n).g) (hu : MapP w p.unheard N (runR (ctxOf p d fr) (rsOf raw) s n).u)
    (hM : LinkM w p.linked nl 0 (runL (vouchF os n whole) n whole (runR (ctxOf p d fr) (rsOf raw) s n).kept (fun i => (rsOf raw i).1) (runR (ctxOf p d fr) (rsOf raw) s n).kept.length) fr)
    (hR : ∀ w', Chg (X4 bmk bmb bmu) w w' → R (.returned (.bool true)) w') : (dropS 23 (Yba.f3.body.getD .skip)).wp Yba.prog (bodyPost Yba.prog Yba.f3 R) a w := by
  have hrow : ∀ b t m g, Row w b t m g → t ≠ 50 → ¬ X4 bmk bmb bmu b := fun b t m g h ht e => e.elim (row_ne_row h hmk ht) fun e => e.elim (row_ne_row h hmb ht) (row_ne_row h hmu ht)
  have hmap : ∀ c, (∃ es k, w.heap[c]? = some (Obj.map es k)) → ¬ X4 bmk bmb bmu c := fun c h e => e.elim (fun e => row_ne_map hmk h e.symm) fun e => e.elim (fun e => row_ne_map hmb h e.symm) fun e => row_ne_map hmu h e.symm
  have h37 : ∀ v, w.ownsRow 0 37 4 v 1 (apC fr) → ∀ c, v.ownBlock = some c → ¬ X4 bmk bmb bmu c := fun v hv c hc e => e.elim (fun e => row_ne_own hv hmk (by decide) (by rw [hc, e])) fun e => e.elim (fun e => row_ne_own hv hmb (by decide) (by rw [hc, e])) fun e => row_ne_own hv hmu (by decide) (by rw [hc, e])
  obtain ⟨rp, rc, hrv⟩ := hZ.len
  refine sq ?_
  refine st0 hA (wn rfl) rfl rfl (x_as rfl) fun a hA => ?_
  refine fin ?_
  refine wp_seq ?_
  refine sq ?_
  refine st0 hA (wn rfl) rfl rfl (x_mv rfl) fun a hA => ?_
  rw [hrv] at hA
  refine st0 hA (wn rfl) rfl rfl (x_len rfl Yba.underlying22) fun a hA => ?_
  refine st0 hA (wn rfl) rfl rfl (x_mv rfl) fun a hA => ?_
  refine fin ?_
  rw [← hrv] at hA
  refine lpb (fun m a w' => ∃ (k : Nat) (kv : Value), k + m = n ∧ At a 499 [(2, rv), (3, .bool whole), (6, .bool plc), (7, .int .u8 (p.lo : Int)), (8, .int .u8 (p.wd : Int)), (14, .pointer (some ⟨bOwn, 0, none⟩)), (21, .int .i64 (n : Int)), (22, .int .u16 fr), (23, .int .u16 p.self), (24, .pointer (some ⟨bD, 0, none⟩)), (26, .pointer (some ⟨bL, 0, none⟩)), (27, .pointer (some ⟨bmk, 0, none⟩)), (28, .pointer (some ⟨bmb, 0, none⟩)), (29, .pointer (some ⟨bmu, 0, none⟩)), (36, .slice (some ⟨bR, 0, none⟩) n n), (43, kv), (234, rv), (235, .int .i64 (n : Int)), (236, .int .i64 (k : Int))] ∧ Mdl w w' bmk bmb bmu (runR (ctxOf p d fr) (rsOf raw) s k) kv) n ⟨0, .slice none 0 0, by omega, hA.pick [2, 3, 6, 7, 8, 14, 21, 22, 23, 24, 26, 27, 28, 29, 36, 43, 234, 235, 236], ?_⟩ ?_
  · refine ⟨Chg.refl _ _, hmk, hmb, hmu, ?_⟩
    show w.ownsRow w.heap.size 3 1 (.slice none 0 0) s.kept.length (intsC s.kept)
    rw [hs]
    exact World.ownsRow_nil w _ _ _
  rintro m a w1 ⟨k, kv, hkm, hA, hmod⟩
  have hgood := fun m (hm : m ≤ n) => good_run (ctxOf p d fr) (rsOf raw) s hgf hgg hgu hfr m (fun i hi => by show (raw i).2 % 4 + 1 ≤ 9; omega)
  by_cases hlt : k < n
  case neg =>
    have hkn : k = n := by omega
    subst hkn
    refine sq ?_
    refine st0 hA (wn rfl) rfl rfl (x_bin rfl rfl (lss3F _ _ _ _ (by omega))) fun a hA => ?_
    refine fin ?_
    refine sqfe hA rfl (x_th (xin (n_th ?_)))
    obtain ⟨h1, h2⟩ := runR_kept (ctxOf p d fr) (rsOf raw) s hs k
    obtain ⟨g1, g2, g3⟩ := hgood k (Nat.le_refl _)
    obtain ⟨kp, kc, rfl, hI⟩ := ints_of_own hmod.kept
    have hL1 : Lk w1 bL p := Row.chg hL hmod.chg (hrow _ _ _ _ hL (by decide))
    have hk1 := hk.chg hmod.chg (hmap _ hk.map)
    have hb1 := hb.chg hmod.chg (hmap _ hb.map)
    have hu1 := hu.chg hmod.chg (hmap _ hu.map)
    have hM1 := hM.keepX hmod.chg (hmap _ hM.map) h37
    have hRt1 : Routes w1 bR k (rsOf raw) := Row.chg hRt hmod.chg (hrow _ _ _ _ hRt (by decide))
    have hO1 := hO.chg hmod.chg (hrow _ _ _ _ hO (by decide))
    have hB1 : Bools w1 vown os := hB.chg hmod.chg hlv
    have hA : At a 499 [(3, .bool whole), (14, .pointer (some ⟨bOwn, 0, none⟩)), (21, .int .i64 (k : Int)), (22, .int .u16 fr), (26, .pointer (some ⟨bL, 0, none⟩)), (27, .pointer (some ⟨bmk, 0, none⟩)), (28, .pointer (some ⟨bmb, 0, none⟩)), (29, .pointer (some ⟨bmu, 0, none⟩)), (36, .slice (some ⟨bR, 0, none⟩) k k), (43, .slice kp (runR (ctxOf p d fr) (rsOf raw) s k).kept.length kc)] := hA.pick [3, 14, 21, 22, 26, 27, 28, 29, 36, 43]
    refine wp_seq ?_
    refine sq ?_
    refine st0 hA (wn rfl) rfl rfl (x_mv rfl) fun a hA => ?_
    refine st0 hA (wn rfl) rfl rfl (x_nil rfl) fun a hA => ?_
    refine st0 hA (wn rfl) rfl rfl (x_fld rfl (fld49_5 _ _ _)) fun a hA => ?_
    refine st0 hA (wn rfl) rfl rfl (x_load rfl (Lk.one hL1 ag43 1 _ (by omega) rfl)) fun a hA => ?_
    refine st hA (wn rfl) rfl rfl (x_call (cap := []) rfl rfl c10 (check_any p.known bmk N _ w1 g1 hk1 hmod.ek)) fun a w2 hA b2 => ?_
    refine st0 hA (wn rfl) rfl rfl (x_not rfl) fun a hA => ?_
    refine st0 hA (wn rfl) rfl rfl (x_mv rfl) fun a hA => ?_
    have c2 := Chg.F b2
    refine st0 hA (wy rfl rfl rfl) rfl rfl (x_mv rfl) fun a hA => ?_
    refine st0 hA (wy rfl rfl rfl) rfl rfl (x_nil rfl) fun a hA => ?_
    refine st0 hA (wy rfl rfl rfl) rfl rfl (x_fld rfl (fld49_6 _ _ _)) fun a hA => ?_
    refine st0 hA (wy rfl rfl rfl) rfl rfl (x_load rfl (Lk.one (Row.chg hL1 c2 id) ag43 2 _ (by omega) rfl)) fun a hA => ?_
    refine st hA (wy rfl rfl rfl) rfl rfl (x_call (cap := []) rfl rfl c10 (check_any p.shown bmb N _ w2 g2 (hb1.chg c2 id) (Row.chg hmod.eb c2 id))) fun a w3 hA b3 => ?_
    have c3 := c2.trans (Chg.F b3)
    refine st0 hA (wy rfl rfl rfl) rfl rfl (x_not rfl) fun a hA => ?_
    refine st0 hA (wn rfl) rfl rfl (x_pick rfl rfl) fun a hA => ?_
    refine st0 hA (wn rfl) rfl rfl (x_mv rfl) fun a hA => ?_
    refine st0 hA (wy rfl rfl rfl) rfl rfl (x_mv rfl) fun a hA => ?_
    refine st0 hA (wy rfl rfl rfl) rfl rfl (x_nil rfl) fun a hA => ?_
    refine st0 hA (wy rfl rfl rfl) rfl rfl (x_fld rfl (fld49_10 _ _ _)) fun a hA => ?_
    refine st0 hA (wy rfl rfl rfl) rfl rfl (x_load rfl (Lk.one (Row.chg hL1 c3 id) ag43 6 _ (by omega) rfl)) fun a hA => ?_
    refine st hA (wy rfl rfl rfl) rfl rfl (x_call (cap := []) rfl rfl c10 (check_any p.unheard bmu N _ w3 g3 (hu1.chg c3 id) (Row.chg hmod.eu c3 id))) fun a w4 hA b4 => ?_
    have c4 := c3.trans (Chg.F b4)
    refine st0 hA (wy rfl rfl rfl) rfl rfl (x_not rfl) fun a hA => ?_
    refine st0 hA (wn rfl) rfl rfl (x_pick rfl rfl) fun a hA => ?_
    refine fin ?_
    refine cdfs hA rfl ?_
    exact law4 bL bR bOwn k nl p fr whole (rsOf raw) os vown _ kp kc R hn hol (fun i hi => (hraw i hi).1) h1 h2 a w4 (hA.pick [3, 14, 21, 22, 26, 36, 43]) (Row.chg hL1 c4 id) (Row.chg hRt1 c4 id) (hO1.chg c4 id) (hB1.chg c4 fun _ _ _ _ _ => id) (hI.chgF c4) (hM1.chg c4) fun w5 h5 => hR w5 (hmod.chg.comp (c4.trans h5) fun _ _ e => e.elim)
  obtain ⟨_, h2⟩ := runR_kept (ctxOf p d fr) (rsOf raw) s hs k
  obtain ⟨r1, r2⟩ := hraw k hlt
  obtain ⟨g1, _, _⟩ := hgood k (by omega)
  refine sq ?_
  refine st0 hA (wn rfl) rfl rfl (x_bin rfl rfl (lss3T _ _ _ _ (by omega))) fun a hA => ?_
  refine fin ?_
  refine sqts hA rfl ?_
  refine cut (fun a' w' => ∃ kv', At a' 499 [(2, rv), (3, .bool whole), (6, .bool plc), (7, .int .u8 (p.lo : Int)), (8, .int .u8 (p.wd : Int)), (14, .pointer (some ⟨bOwn, 0, none⟩)), (21, .int .i64 (n : Int)), (22, .int .u16 fr), (23, .int .u16 p.self), (24, .pointer (some ⟨bD, 0, none⟩)), (26, .pointer (some ⟨bL, 0, none⟩)), (27, .pointer (some ⟨bmk, 0, none⟩)), (28, .pointer (some ⟨bmb, 0, none⟩)), (29, .pointer (some ⟨bmu, 0, none⟩)), (36, .slice (some ⟨bR, 0, none⟩) n n), (43, kv'), (234, rv), (235, .int .i64 (n : Int)), (236, .int .i64 (k : Int))] ∧ Mdl w w' bmk bmb bmu (runR (ctxOf p d fr) (rsOf raw) s (k + 1)) kv') ?_ ?_
  · refine wp_block ?_
    exact iterM bL bR bOwn bD bmk bmb bmu n k p fr whole plc rv raw d (runR (ctxOf p d fr) (rsOf raw) s k) kv _ _ hn hlt hlo hwd r1 r2 h2 hplc hself hfr g1 h12 h13 h23 a w w1 (hA.pick [2, 3, 6, 7, 8, 14, 21, 22, 23, 24, 26, 27, 28, 29, 36, 43, 234, 235, 236]) (hZ.chg hmod.chg hlr) (hD.chg hmod.chg (hrow _ _ _ _ hD (by decide))) hmod (fun a' w' kv' h3 h4 => ⟨kv', h3, h4⟩)
  rintro a w2 ⟨kv', hA, hmod'⟩
  refine rg ?_
  refine st0 hA (wn rfl) rfl rfl (x_bin rfl rfl (add3N _ _ _ (by omega))) fun a hA => ?_
  refine st0 hA (wn rfl) rfl rfl (x_mv rfl) fun a hA => ?_
  exact fin0 (n_th ⟨m - 1, by omega, k + 1, kv', by omega, hA.pick [2, 3, 6, 7, 8, 14, 21, 22, 23, 24, 26, 27, 28, 29, 36, 43, 234, 235, 236], hmod'⟩)
end Go.Proofs.Ybulkcrtu
