import Derived.Test.YbulkcrtuTN
namespace Go.Proofs.Ybulkcrtu
open Go.RowKit Go.ChangeMaps Go.MapKept

/-- What the prior routes leave. -/
def pf (raw : Nat → Nat × Nat) : Nat → Ports
  | 0 => fun _ => none
  | m + 1 => putP (pf raw m) (raw m).1 (((raw m).2 % 4 + 1 : Nat) : Int)
def pg (raw : Nat → Nat × Nat) : Nat → Ports
  | 0 => fun _ => none
  | m + 1 => putP (pg raw m) (raw m).1 9
theorem good_none : Good (fun _ => none) := fun _ _ h => by cases h
theorem good_pf (raw : Nat → Nat × Nat) : ∀ m, Good (pf raw m)
  | 0 => good_none
  | m + 1 => good_put (good_pf raw m) _ _ (by omega)
theorem good_pg (raw : Nat → Nat × Nat) : ∀ m, Good (pg raw m)
  | 0 => good_none
  | m + 1 => good_put (good_pg raw m) _ _ (by omega)
def XP (p : LkP) (bmk bmb b : Nat) : Prop := b = p.known ∨ b = p.shown ∨ b = bmk ∨ b = bmb
set_option maxRecDepth 100000 in
set_option maxHeartbeats 2000000 in
/-- The model's rows, the prior routes, and what follows. -/
theorem law0b (bL bOwn bD n mp B0 : Nat) (p : LkP) (fr : Int) (whole plc : Bool) (rv pv : Value) (raw raw2 : Nat → Nat × Nat) (d : Nat → Bool) (os : List Bool) (vown : Value) (R : Ending → World → Prop)
    (hn : n ≤ 300) (hmp : mp ≤ 300) (hlo : p.lo ≤ 255) (hwd : p.wd ≤ 255) (hraw : ∀ k, k < n → (raw k).1 ≤ 255 ∧ (raw k).2 ≤ 255) (hraw2 : ∀ k, k < mp → (raw2 k).1 ≤ 255 ∧ (raw2 k).2 ≤ 255) (hol : os.length ≤ 9223372036854775807) (hplc : plc = decide (p.purpose = 1)) (hself : 0 ≤ p.self ∧ p.self ≤ 9) (hfr : 0 ≤ fr ∧ fr ≤ 9) (hAp : Apart p) (hdl : p.dead ≠ p.linked) (hFd : B0 ≤ p.dead) (hFk : B0 ≤ p.known) (hFb : B0 ≤ p.shown) (hFu : B0 ≤ p.unheard) (hFl : B0 ≤ p.linked)
    (hlv : ∀ b o n c, vown = .slice (some ⟨b, o, none⟩) n c → b < B0) (hlr : ∀ b o n c, rv = .slice (some ⟨b, o, none⟩) n c → b < B0) (hlp : ∀ b o n c, pv = .slice (some ⟨b, o, none⟩) n c → b < B0)
    (a : Act) (w : World) (hB0 : B0 ≤ w.heap.size) (hA : At a 499 [(2, rv), (3, .bool whole), (6, .bool plc), (7, .int .u8 (p.lo : Int)), (8, .int .u8 (p.wd : Int)), (14, .pointer (some ⟨bOwn, 0, none⟩)), (21, .int .i64 (n : Int)), (22, .int .u16 fr), (23, .int .u16 p.self), (24, .pointer (some ⟨bD, 0, none⟩)), (26, .pointer (some ⟨bL, 0, none⟩)), (9, pv)]) (hL : Lk w bL p) (hO : Row w bOwn 23 1 (fun _ => vown)) (hB : Bools w vown os) (hZ : ZR w rv n raw) (hZp : ZR w pv mp raw2) (hD : Row w bD 26 5 (fun i => .bool (d i)))
    (hdd : IsDead w p.dead (fun _ => false)) (hk : MapP w p.known 0 (fun _ => none)) (hb : MapP w p.shown 0 (fun _ => none)) (hu : MapP w p.unheard 0 (fun _ => none)) (hM : LinkM w p.linked 0 0 [] fr)
    (hR : ∀ w', Chg (fun b => B0 ≤ b) w w' → R (.returned (.bool true)) w') : (dropS 9 (Yba.f3.body.getD .skip)).wp Yba.prog (bodyPost Yba.prog Yba.f3 R) a w := by
  obtain ⟨w1, hr1, m1⟩ := mk_alloc _ al50 w
  obtain ⟨w2, hr2, m2⟩ := mk_alloc _ al50 w1
  obtain ⟨w3, hr3, m3⟩ := mk_alloc _ al50 w2
  have hs1 : w1.heap.size = w.heap.size + 1 := m1.2.1
  have hs2 : w2.heap.size = w1.heap.size + 1 := m2.2.1
  have hs3 : w3.heap.size = w2.heap.size + 1 := m3.2.1
  have hzz : ∀ (W W' : World), Made W W' 50 (zs 256 (.int .i64 0)) → Row W' W.heap.size 50 256 (fun i => .int .i64 (if i < 0 then -1 else 0)) := fun W W' h => h.row.ext fun i hi => by
    have hi' : i < 256 := hi
    rw [if_neg (by omega), zs, List.getD_eq_getElem?_getD, List.getElem?_replicate, if_pos hi']
    rfl
  have q1 := ((hzz _ _ m1).below m2.1 (by omega)).below m3.1 (by omega)
  have q2 := (hzz _ _ m2).below m3.1 (by omega)
  have q3 := hzz _ _ m3
  have c03 : Chg (fun _ => False) w w3 := ((Chg.F m1.1).trans (Chg.F m2.1)).trans (Chg.F m3.1)
  refine sq ?_
  refine st hA (wn rfl) rfl rfl (x_alloc ⟨w1, hr1, rfl⟩) fun a w1' hA e => ?_
  subst e
  refine st hA (wn rfl) rfl rfl (x_alloc ⟨w2, hr2, rfl⟩) fun a w2' hA e => ?_
  subst e
  refine st hA (wn rfl) rfl rfl (x_alloc ⟨w3, hr3, rfl⟩) fun a w3' hA e => ?_
  subst e
  refine fin ?_
  have n12 : w.heap.size ≠ w1.heap.size := by omega
  have n13 : w.heap.size ≠ w2.heap.size := by omega
  have n23 : w1.heap.size ≠ w2.heap.size := by omega
  have g1 : B0 ≤ w.heap.size := hB0
  have g2 : B0 ≤ w1.heap.size := by omega
  have g3 : B0 ≤ w2.heap.size := by omega
  have hge : w.heap.size ≤ w.heap.size ∧ w.heap.size ≤ w1.heap.size ∧ w.heap.size ≤ w2.heap.size := by omega
  generalize hbmk : w.heap.size = bmk at q1 hA n12 n13 g1 hge
  generalize hbmb : w1.heap.size = bmb at q2 hA n12 n23 g2 hge
  generalize hbmu : w2.heap.size = bmu at q3 hA n13 n23 g3 hge
  refine cut (fun a' w' => At a' 499 [(2, rv), (3, .bool whole), (6, .bool plc), (7, .int .u8 (p.lo : Int)), (8, .int .u8 (p.wd : Int)), (14, .pointer (some ⟨bOwn, 0, none⟩)), (21, .int .i64 (n : Int)), (22, .int .u16 fr), (23, .int .u16 p.self), (24, .pointer (some ⟨bD, 0, none⟩)), (26, .pointer (some ⟨bL, 0, none⟩)), (27, .pointer (some ⟨bmk, 0, none⟩)), (28, .pointer (some ⟨bmb, 0, none⟩)), (29, .pointer (some ⟨bmu, 0, none⟩)), (9, pv)] ∧ Chg (fun _ => False) w w' ∧ Enc w' bmk (fun _ => none) ∧ Enc w' bmb (fun _ => none) ∧ Enc w' bmu (fun _ => none)) ?_ ?_
  · refine sq ?_
    refine st0 hA (wn rfl) rfl rfl (x_as rfl) fun a hA => ?_
    refine fin ?_
    refine lpb (fun m a' w' => ∃ k : Nat, k + m = 256 ∧ At a' 499 [(2, rv), (3, .bool whole), (6, .bool plc), (7, .int .u8 (p.lo : Int)), (8, .int .u8 (p.wd : Int)), (14, .pointer (some ⟨bOwn, 0, none⟩)), (21, .int .i64 (n : Int)), (22, .int .u16 fr), (23, .int .u16 p.self), (24, .pointer (some ⟨bD, 0, none⟩)), (26, .pointer (some ⟨bL, 0, none⟩)), (27, .pointer (some ⟨bmk, 0, none⟩)), (28, .pointer (some ⟨bmb, 0, none⟩)), (29, .pointer (some ⟨bmu, 0, none⟩)), (9, pv), (30, .int .i64 (k : Int))] ∧ Chg (fun _ => False) w w' ∧ Row w' bmk 50 256 (fun i => .int .i64 (if i < k then -1 else 0)) ∧ Row w' bmb 50 256 (fun i => .int .i64 (if i < k then -1 else 0)) ∧ Row w' bmu 50 256 (fun i => .int .i64 (if i < k then -1 else 0))) 256 ⟨0, by omega, hA.pick [2, 3, 6, 7, 8, 14, 21, 22, 23, 24, 26, 27, 28, 29, 9, 30], c03, q1, q2, q3⟩ ?_
    rintro m a w4 ⟨k, hkm, hA, hc4, e1, e2, e3⟩
    refine wp_seq ?_
    by_cases hlt : k < 256
    case neg =>
      refine sq ?_
      refine st0 hA (wn rfl) rfl rfl (x_mv rfl) fun a hA => ?_
      refine st0 hA (wn rfl) rfl rfl (x_bin rfl rfl (lss3F _ _ _ _ (by omega))) fun a hA => ?_
      refine fin ?_
      have hx : ∀ b, Row w4 b 50 256 (fun i => .int .i64 (if i < k then -1 else 0)) → Enc w4 b (fun _ => none) := fun b h => h.ext fun i hi => by rw [if_pos (by omega)]; rfl
      exact cdfe hA rfl (x_th (xin (n_th ⟨hA.pick [2, 3, 6, 7, 8, 14, 21, 22, 23, 24, 26, 27, 28, 29, 9], hc4, hx _ e1, hx _ e2, hx _ e3⟩)))
    refine sq ?_
    refine st0 hA (wn rfl) rfl rfl (x_mv rfl) fun a hA => ?_
    refine st0 hA (wn rfl) rfl rfl (x_bin rfl rfl (lss3T _ _ _ _ (by omega))) fun a hA => ?_
    refine fin ?_
    refine cdts hA rfl ?_
    have hext : ∀ (W : World) b, Row W b 50 256 (fun i => if i = 0 + k * 1 then .int .i64 (-1) else .int .i64 (if i < k then -1 else 0)) → Row W b 50 256 (fun i => .int .i64 (if i < k + 1 then -1 else 0)) := fun W b h => h.ext fun i hi => by
      by_cases e : i = 0 + k * 1
      · rw [if_pos e, if_pos (by omega)]
      · rw [if_neg e]
        by_cases e2 : i < k
        · rw [if_pos e2, if_pos (by omega)]
        · rw [if_neg e2, if_neg (by omega)]
    obtain ⟨w5, hr5, u5, f1⟩ := e1.store1 (ty := 3) (o := 0 + k * 1) (.int .i64 (-1)) sz3 rfl (by omega)
    obtain ⟨w6, hr6, u6, f2⟩ := (e2.up u5 n12.symm).store1 (ty := 3) (o := 0 + k * 1) (.int .i64 (-1)) sz3 rfl (by omega)
    obtain ⟨w7, hr7, u7, f3⟩ := ((e3.up u5 n13.symm).up u6 n23.symm).store1 (ty := 3) (o := 0 + k * 1) (.int .i64 (-1)) sz3 rfl (by omega)
    refine sqb ?_
    refine sq ?_
    refine st0 hA (wn rfl) rfl rfl (x_mv rfl) fun a hA => ?_
    refine st0 hA (wn rfl) rfl rfl (x_idx rfl rfl (idxA _ _ _ _ Yba.underlying50 sz3 hlt)) fun a hA => ?_
    refine stn hA (wn rfl) rfl (x_store rfl rfl ⟨w5, hr5, rfl⟩) fun w5' e => ?_
    subst e
    refine fin ?_
    refine sq ?_
    refine st0 hA (wn rfl) rfl rfl (x_mv rfl) fun a hA => ?_
    refine st0 hA (wn rfl) rfl rfl (x_idx rfl rfl (idxA _ _ _ _ Yba.underlying50 sz3 hlt)) fun a hA => ?_
    refine stn hA (wn rfl) rfl (x_store rfl rfl ⟨w6, hr6, rfl⟩) fun w6' e => ?_
    subst e
    refine fin ?_
    refine rg ?_
    refine st0 hA (wn rfl) rfl rfl (x_mv rfl) fun a hA => ?_
    refine st0 hA (wn rfl) rfl rfl (x_idx rfl rfl (idxA _ _ _ _ Yba.underlying50 sz3 hlt)) fun a hA => ?_
    refine stn hA (wn rfl) rfl (x_store rfl rfl ⟨w7, hr7, rfl⟩) fun w7' e => ?_
    subst e
    refine fin0 (n_in (n_th ?_))
    have hc7 : Chg (fun _ => False) w w7 := ((hc4.comp (Chg.of_up (X := (· = bmk)) u5 rfl) fun x hx e => by
      have : x = bmk := e
      omega).comp (Chg.of_up (X := (· = bmb)) u6 rfl) fun x hx e => by
      have : x = bmb := e
      omega).comp (Chg.of_up (X := (· = bmu)) u7 rfl) fun x hx e => by
      have : x = bmu := e
      omega
    refine rg ?_
    refine st0 hA (wn rfl) rfl rfl (x_mv rfl) fun a hA => ?_
    refine st0 hA (wn rfl) rfl rfl (x_bin rfl rfl (add3N _ _ _ (by omega))) fun a hA => ?_
    refine st0 hA (wn rfl) rfl rfl (x_as rfl) fun a hA => ?_
    exact fin0 (n_th ⟨m - 1, by omega, k + 1, by omega, hA.pick [2, 3, 6, 7, 8, 14, 21, 22, 23, 24, 26, 27, 28, 29, 9, 30], hc7, (hext _ _ ((f1.up u6 n12).up u7 n13)), (hext _ _ (f2.up u7 n23)), hext _ _ f3⟩)
  rintro a w4 ⟨hA, hc4, e1, e2, e3⟩
  have hL4 : Lk w4 bL p := Row.chg hL hc4 id
  have hO4 := hO.chg hc4 id
  have hB4 : Bools w4 vown os := hB.chg hc4 fun _ _ _ _ _ => id
  have hZ4 : ZR w4 rv n raw := hZ.chg hc4 fun _ _ _ _ _ => id
  have hZp4 : ZR w4 pv mp raw2 := hZp.chg hc4 fun _ _ _ _ _ => id
  have hD4 := hD.chg hc4 id
  have hdd4 := hdd.chg hc4 id
  have hk4 := hk.chg hc4 id
  have hb4 := hb.chg hc4 id
  have hu4 := hu.chg hc4 id
  have hM4 := hM.chg hc4
  have hsz4 : B0 ≤ w4.heap.size := Nat.le_trans hB0 hc4.size
  have hxrow : ∀ b t m g, Row w4 b t m g → t ≠ 50 → ¬ XP p bmk bmb b := fun b t m g h ht e => by
    rcases e with e | e | e | e
    · exact row_ne_map h hk4.map e
    · exact row_ne_map h hb4.map e
    · exact row_ne_row h e1 ht e
    · exact row_ne_row h e2 ht e
  have hxlow : ∀ x, x < B0 → ¬ XP p bmk bmb x := fun x hx e => by rcases e with e | e | e | e <;> omega
  have hxmap : ∀ c, (∃ es k, w4.heap[c]? = some (Obj.map es k)) → c ≠ p.known → c ≠ p.shown → ¬ XP p bmk bmb c := fun c h h1 h2 e => by
    rcases e with e | e | e | e
    · exact h1 e
    · exact h2 e
    · exact row_ne_map e1 h e.symm
    · exact row_ne_map e2 h e.symm
  have hxmu : ¬ XP p bmk bmb bmu := fun e => by
    rcases e with e | e | e | e
    · exact row_ne_map e3 hk4.map e
    · exact row_ne_map e3 hb4.map e
    · exact n13 e.symm
    · exact n23 e.symm
  refine cut (fun a' w' => At a' 499 [(2, rv), (3, .bool whole), (6, .bool plc), (7, .int .u8 (p.lo : Int)), (8, .int .u8 (p.wd : Int)), (14, .pointer (some ⟨bOwn, 0, none⟩)), (21, .int .i64 (n : Int)), (22, .int .u16 fr), (23, .int .u16 p.self), (24, .pointer (some ⟨bD, 0, none⟩)), (26, .pointer (some ⟨bL, 0, none⟩)), (27, .pointer (some ⟨bmk, 0, none⟩)), (28, .pointer (some ⟨bmb, 0, none⟩)), (29, .pointer (some ⟨bmu, 0, none⟩))] ∧ Chg (XP p bmk bmb) w4 w' ∧ MapP w' p.known mp (pf raw2 mp) ∧ MapP w' p.shown mp (pg raw2 mp) ∧ Enc w' bmk (pf raw2 mp) ∧ Enc w' bmb (pg raw2 mp)) ?_ ?_
  · obtain ⟨rp, rc, hrv⟩ := hZp.len
    refine sq ?_
    refine st0 hA (wn rfl) rfl rfl (x_mv rfl) fun a hA => ?_
    rw [hrv] at hA
    refine st0 hA (wn rfl) rfl rfl (x_len rfl Yba.underlying22) fun a hA => ?_
    refine st0 hA (wn rfl) rfl rfl (x_mv rfl) fun a hA => ?_
    rw [← hrv] at hA
    refine fin ?_
    refine lpb (fun m a' w' => ∃ k : Nat, k + m = mp ∧ At a' 499 [(2, rv), (3, .bool whole), (6, .bool plc), (7, .int .u8 (p.lo : Int)), (8, .int .u8 (p.wd : Int)), (14, .pointer (some ⟨bOwn, 0, none⟩)), (21, .int .i64 (n : Int)), (22, .int .u16 fr), (23, .int .u16 p.self), (24, .pointer (some ⟨bD, 0, none⟩)), (26, .pointer (some ⟨bL, 0, none⟩)), (27, .pointer (some ⟨bmk, 0, none⟩)), (28, .pointer (some ⟨bmb, 0, none⟩)), (29, .pointer (some ⟨bmu, 0, none⟩)), (9, pv), (126, pv), (127, .int .i64 (mp : Int)), (128, .int .i64 (k : Int))] ∧ Chg (XP p bmk bmb) w4 w' ∧ MapP w' p.known k (pf raw2 k) ∧ MapP w' p.shown k (pg raw2 k) ∧ Enc w' bmk (pf raw2 k) ∧ Enc w' bmb (pg raw2 k)) mp ⟨0, by omega, hA.pick [2, 3, 6, 7, 8, 14, 21, 22, 23, 24, 26, 27, 28, 29, 9, 126, 127, 128], Chg.refl _ _, hk4, hb4, e1, e2⟩ ?_
    rintro m a w5 ⟨k, hkm, hA, hc5, hk5, hb5, f1, f2⟩
    by_cases hlt : k < mp
    case neg =>
      have : k = mp := by omega
      subst this
      refine sq ?_
      refine st0 hA (wn rfl) rfl rfl (x_bin rfl rfl (lss3F _ _ _ _ (by omega))) fun a hA => ?_
      refine fin ?_
      exact sqfe hA rfl (x_th (xin (n_th ⟨hA.pick [2, 3, 6, 7, 8, 14, 21, 22, 23, 24, 26, 27, 28, 29], hc5, hk5, hb5, f1, f2⟩)))
    obtain ⟨r1, r2'⟩ := hraw2 k hlt
    have hZ5 : ZR w5 pv mp raw2 := hZp4.chg hc5 fun b o m c e => hxlow b (hlp b o m c e)
    have hL5 : Lk w5 bL p := Row.chg hL4 hc5 (hxrow _ _ _ _ hL4 (by decide))
    obtain ⟨bz, oz, cz, hrv', hld⟩ := hZ5.load hlt
    obtain ⟨w6, hr6, m6⟩ := mk_alloc _ al52 w5
    have hs6 : w6.heap.size = w5.heap.size + 1 := m6.2.1
    obtain ⟨w7, hr7, u7, r7⟩ := m6.row.store (ty := 52) (o := 0) [Value.int .u8 ((raw2 k).1 : Int), .int .u8 ((raw2 k).2 : Int)] info52 rfl (Nat.le_refl _)
    have c57 : Chg (fun _ => False) w5 w7 := (Chg.F m6.1).comp (Chg.of_up (X := (· = w5.heap.size)) u7 rfl) fun x hx e => by
      have : x = w5.heap.size := e
      omega
    have r32 : Row w7 w5.heap.size 52 2 (fun i => ([Value.int .u8 ((raw2 k).1 : Int), .int .u8 ((raw2 k).2 : Int)] : List Value).getD i undef) := by
      refine r7.ext fun x hx => ?_
      have hx' : x < 2 := hx
      rw [if_pos (by simp only [List.length_cons, List.length_nil]; omega)]
      rfl
    have hL7 : Lk w7 bL p := Row.chg hL5 c57 id
    have hk7 := hk5.chg c57 id
    have hb7 := hb5.chg c57 id
    have f17 : Enc w7 bmk (pf raw2 k) := Row.chg f1 c57 id
    have f27 : Enc w7 bmb (pg raw2 k) := Row.chg f2 c57 id
    have hc7 : Chg (XP p bmk bmb) w4 w7 := hc5.comp c57 fun _ _ e => e.elim
    have hpc := port_any ((raw2 k).2 : Int) (by omega) (by omega) w7
    rw [portOf_nat] at hpc
    refine sq ?_
    refine st0 hA (wn rfl) rfl rfl (x_bin rfl rfl (lss3T _ _ _ _ (by omega))) fun a hA => ?_
    refine fin ?_
    refine sqts hA rfl ?_
    refine sqb ?_
    refine sq ?_
    rw [hrv'] at hA
    refine st0 hA (wn rfl) rfl rfl (x_idx rfl rfl (idxS _ _ _ _ _ _ Yba.underlying22 sz52 hlt)) fun a hA => ?_
    refine st0 hA (wn rfl) rfl rfl (x_load rfl hld) fun a hA => ?_
    refine st hA (wn rfl) rfl rfl (x_alloc ⟨w6, hr6, rfl⟩) fun a w6' hA e => ?_
    subst e
    refine stn hA (wn rfl) rfl (x_store rfl rfl ⟨w7, hr7, rfl⟩) fun w7' e => ?_
    subst e
    refine fin ?_
    rw [← hrv'] at hA
    refine sq ?_
    refine st0 hA (wn rfl) rfl rfl (x_fld rfl (fld52_1 _ _ _)) fun a hA => ?_
    refine st0 hA (wn rfl) rfl rfl (x_load rfl (r32.load1 ag5 (by omega))) fun a hA => ?_
    refine st0 hA (wn rfl) rfl rfl (x_call (cap := []) rfl rfl c5 hpc) fun a hA => ?_
    refine st0 hA (wn rfl) rfl rfl (x_as rfl) fun a hA => ?_
    refine fin ?_
    generalize hkey : (raw2 k).1 = key at *
    generalize hprt : (raw2 k).2 % 4 + 1 = port at *
    have hport : 1 ≤ port ∧ port ≤ 4 := by omega
    have hA : At a 499 [(2, rv), (3, .bool whole), (6, .bool plc), (7, .int .u8 (p.lo : Int)), (8, .int .u8 (p.wd : Int)), (14, .pointer (some ⟨bOwn, 0, none⟩)), (21, .int .i64 (n : Int)), (22, .int .u16 fr), (23, .int .u16 p.self), (24, .pointer (some ⟨bD, 0, none⟩)), (26, .pointer (some ⟨bL, 0, none⟩)), (27, .pointer (some ⟨bmk, 0, none⟩)), (28, .pointer (some ⟨bmb, 0, none⟩)), (29, .pointer (some ⟨bmu, 0, none⟩)), (9, pv), (126, pv), (127, .int .i64 (mp : Int)), (128, .int .i64 (k : Int)), (32, .pointer (some ⟨w5.heap.size, 0, none⟩)), (33, .int .u16 (port : Int))] := hA.pick [2, 3, 6, 7, 8, 14, 21, 22, 23, 24, 26, 27, 28, 29, 9, 126, 127, 128, 32, 33]
    have hL7' : Lk w7.drew bL p := hL7
    have r32' : Row w7.drew w5.heap.size 52 2 (fun i => ([Value.int .u8 (key : Int), .int .u8 ((raw2 k).2 : Int)] : List Value).getD i undef) := r32
    have hk7' : MapP w7.drew p.known k (pf raw2 k) := hk7
    refine wp_seq ?_
    refine drawn_last [.pointer (some ⟨bL, 0, none⟩), .pointer (some ⟨bL, 0, none⟩), .pointer (some ⟨bL, 0 + 101, none⟩), .map (some p.known), .pointer (some ⟨w5.heap.size, 0, none⟩), .int .u8 (key : Int), keyV key, .int .u16 (port : Int), apV (port : Int), undef] 9 (fun w' => Below w7.drew.heap.size w7.drew w')
      (fun w' => ∃ wx, Below w7.drew.heap.size w7.drew wx ∧ Up wx w' p.known ∧ MapP w' p.known (k + 1) (putP (pf raw2 k) key port)) hA mixed (by kernel_rfl) rfl (by kernel_rfl) (Below.refl _ _) ?_ ?_
    · refine each_cons (do0 rfl [] rfl (wn rfl) fun w hS => (x_mv rfl)) ?_
      refine each_cons (do0 rfl [(135, 0)] rfl (wn rfl) fun w hS => (x_nil rfl)) ?_
      refine each_cons (do0 rfl [(136, 1)] rfl (wn rfl) fun w hS => (x_fld rfl (fld49_5 _ _ _))) ?_
      refine each_cons (do0 rfl [(137, 2)] rfl (wn rfl) fun w hS => (x_load rfl (Lk.one (hL7'.below hS hL7'.lt) ag43 1 _ (by omega) rfl))) ?_
      refine each_cons (do0 rfl [] rfl (wn rfl) fun w hS => (x_fld rfl (fld52_0 _ _ _))) ?_
      refine each_cons (do0 rfl [(139, 4)] rfl (wn rfl) fun w hS => (x_load rfl ((r32'.below hS r32'.lt).load1 ag5 (by omega)))) ?_
      refine each_cons (do1 rfl [(140, 5)] rfl (wn rfl) fun w hS => (x_call (cap := []) rfl rfl c7 ((key_any (key : Int) w).mono fun e w' h => ⟨h.1, hS.trans (h.2.mono hS.size)⟩))) ?_
      refine each_cons (do0 rfl [] rfl (wn rfl) fun w hS => (x_mv rfl)) ?_
      refine each_cons (do1 rfl [(142, 7)] rfl (wn rfl) fun w hS => (x_call (cap := []) rfl rfl c6 ((ap_of _ w).mono fun e w' h => ⟨h.1, hS.trans (h.2.mono hS.size)⟩))) ?_
      refine each_cons (do1 rfl [(138, 3), (141, 6), (143, 8)] rfl (wn rfl) fun w hS => (x_mapup rfl rfl rfl (by
        obtain ⟨w', h1, h2, h3⟩ := (show MapP w p.known k (pf raw2 k) from MapK.below hk7' hS hk7'.lt).update (by omega) r1 (port : Int)
        exact ⟨w', h1, w, hS, h2, h3⟩))) ?_
      exact each_nil
    rintro a w8 hA ⟨wx, hbx, hux, hk8⟩
    refine n_th ?_
    have c78 : Chg (· = p.known) w7 w8 := ((Chg.refl _ w7).drew.trans (Chg.of_below hbx)).trans (Chg.of_up hux rfl)
    have x8 : ∀ b t m g, Row w7 b t m g → ¬ (b = p.known) := fun b t m g h => row_ne_map h hk7.map
    have hL8 : Lk w8.drew bL p := Row.chg hL7 c78.drew (x8 _ _ _ _ hL7)
    have r32'' : Row w8.drew w5.heap.size 52 2 (fun i => ([Value.int .u8 (key : Int), .int .u8 ((raw2 k).2 : Int)] : List Value).getD i undef) := r32.chg c78.drew (x8 _ _ _ _ r32)
    have hb8 : MapP w8.drew p.shown k (pg raw2 k) := hb7.chg c78.drew (fun e => hAp.kb e.symm)
    have hA : At a 499 [(2, rv), (3, .bool whole), (6, .bool plc), (7, .int .u8 (p.lo : Int)), (8, .int .u8 (p.wd : Int)), (14, .pointer (some ⟨bOwn, 0, none⟩)), (21, .int .i64 (n : Int)), (22, .int .u16 fr), (23, .int .u16 p.self), (24, .pointer (some ⟨bD, 0, none⟩)), (26, .pointer (some ⟨bL, 0, none⟩)), (27, .pointer (some ⟨bmk, 0, none⟩)), (28, .pointer (some ⟨bmb, 0, none⟩)), (29, .pointer (some ⟨bmu, 0, none⟩)), (9, pv), (126, pv), (127, .int .i64 (mp : Int)), (128, .int .i64 (k : Int)), (32, .pointer (some ⟨w5.heap.size, 0, none⟩)), (33, .int .u16 (port : Int))] := hA.pick [2, 3, 6, 7, 8, 14, 21, 22, 23, 24, 26, 27, 28, 29, 9, 126, 127, 128, 32, 33]
    refine wp_seq ?_
    refine drawn_last [.pointer (some ⟨bL, 0, none⟩), .pointer (some ⟨bL, 0, none⟩), .pointer (some ⟨bL, 0 + 102, none⟩), .map (some p.shown), .pointer (some ⟨w5.heap.size, 0, none⟩), .int .u8 (key : Int), keyV key, apV 9, undef] 8 (fun w' => Below w8.drew.heap.size w8.drew w')
      (fun w' => ∃ wx, Below w8.drew.heap.size w8.drew wx ∧ Up wx w' p.shown ∧ MapP w' p.shown (k + 1) (putP (pg raw2 k) key 9)) hA mixed (by kernel_rfl) rfl (by kernel_rfl) (Below.refl _ _) ?_ ?_
    · refine each_cons (do0 rfl [] rfl (wn rfl) fun w hS => (x_mv rfl)) ?_
      refine each_cons (do0 rfl [(144, 0)] rfl (wn rfl) fun w hS => (x_nil rfl)) ?_
      refine each_cons (do0 rfl [(145, 1)] rfl (wn rfl) fun w hS => (x_fld rfl (fld49_6 _ _ _))) ?_
      refine each_cons (do0 rfl [(146, 2)] rfl (wn rfl) fun w hS => (x_load rfl (Lk.one (hL8.below hS hL8.lt) ag43 2 _ (by omega) rfl))) ?_
      refine each_cons (do0 rfl [] rfl (wn rfl) fun w hS => (x_fld rfl (fld52_0 _ _ _))) ?_
      refine each_cons (do0 rfl [(148, 4)] rfl (wn rfl) fun w hS => (x_load rfl ((r32''.below hS r32''.lt).load1 ag5 (by omega)))) ?_
      refine each_cons (do1 rfl [(149, 5)] rfl (wn rfl) fun w hS => (x_call (cap := []) rfl rfl c7 ((key_any (key : Int) w).mono fun e w' h => ⟨h.1, hS.trans (h.2.mono hS.size)⟩))) ?_
      refine each_cons (do1 rfl [] rfl (wn rfl) fun w hS => (x_call (cap := []) rfl rfl c6 ((ap_of 9 w).mono fun e w' h => ⟨h.1, hS.trans (h.2.mono hS.size)⟩))) ?_
      refine each_cons (do1 rfl [(147, 3), (150, 6), (151, 7)] rfl (wn rfl) fun w hS => (x_mapup rfl rfl rfl (by
        obtain ⟨w', h1, h2, h3⟩ := (show MapP w p.shown k (pg raw2 k) from MapK.below hb8 hS hb8.lt).update (by omega) r1 9
        exact ⟨w', h1, w, hS, h2, h3⟩))) ?_
      exact each_nil
    rintro a w9 hA ⟨wy', hby, huy, hb9⟩
    refine n_th ?_
    have c89 : Chg (· = p.shown) w8 w9 := ((Chg.refl _ w8).drew.trans (Chg.of_below hby)).trans (Chg.of_up huy rfl)
    have hbm8 := hb8.map
    have x9 : ∀ b t m g, Row w8.drew b t m g → ¬ (b = p.shown) := fun b t m g h => row_ne_map h hbm8
    have f18 : Enc w8.drew bmk (pf raw2 k) := Row.chg f17 c78.drew (x8 _ _ _ _ f17)
    have f28 : Enc w8.drew bmb (pg raw2 k) := Row.chg f27 c78.drew (x8 _ _ _ _ f27)
    have f19 : Enc w9 bmk (pf raw2 k) := Row.chg (w := w8) f18 c89 (x9 _ _ _ _ f18)
    have f29 : Enc w9 bmb (pg raw2 k) := Row.chg (w := w8) f28 c89 (x9 _ _ _ _ f28)
    have r329 : Row w9 w5.heap.size 52 2 (fun i => ([Value.int .u8 (key : Int), .int .u8 ((raw2 k).2 : Int)] : List Value).getD i undef) := Row.chg (w := w8) r32'' c89 (x9 _ _ _ _ r32'')
    have hk9 := hk8.chg c89 hAp.kb
    have hA : At a 499 [(2, rv), (3, .bool whole), (6, .bool plc), (7, .int .u8 (p.lo : Int)), (8, .int .u8 (p.wd : Int)), (14, .pointer (some ⟨bOwn, 0, none⟩)), (21, .int .i64 (n : Int)), (22, .int .u16 fr), (23, .int .u16 p.self), (24, .pointer (some ⟨bD, 0, none⟩)), (26, .pointer (some ⟨bL, 0, none⟩)), (27, .pointer (some ⟨bmk, 0, none⟩)), (28, .pointer (some ⟨bmb, 0, none⟩)), (29, .pointer (some ⟨bmu, 0, none⟩)), (9, pv), (126, pv), (127, .int .i64 (mp : Int)), (128, .int .i64 (k : Int)), (32, .pointer (some ⟨w5.heap.size, 0, none⟩)), (33, .int .u16 (port : Int))] := hA.pick [2, 3, 6, 7, 8, 14, 21, 22, 23, 24, 26, 27, 28, 29, 9, 126, 127, 128, 32, 33]
    obtain ⟨wA, hrA, uA, eA⟩ := f19.put (k := key) (by omega) (port : Int)
    obtain ⟨wB, hrB, uB, eB⟩ := (show Enc wA bmb (pg raw2 k) from Row.up f29 uA n12.symm).put (k := key) (by omega) 9
    have r32A := r329.up uA (row_ne_row r329 f19 (by decide))
    refine sq ?_
    refine st0 hA (wn rfl) rfl rfl (x_fld rfl (fld52_0 _ _ _)) fun a hA => ?_
    refine st0 hA (wn rfl) rfl rfl (x_load rfl (r329.load1 ag5 (by omega))) fun a hA => ?_
    refine st0 hA (wn rfl) rfl rfl (x_cv rfl (cv5_3 _ (by omega) (by omega))) fun a hA => ?_
    refine st0 hA (wn rfl) rfl rfl (x_mv rfl) fun a hA => ?_
    refine st0 hA (wn rfl) rfl rfl (x_cv rfl (cv24_3 _ (by omega) (by omega))) fun a hA => ?_
    refine st0 hA (wn rfl) rfl rfl (x_idx rfl rfl (idxA _ _ _ _ Yba.underlying50 sz3 (by omega))) fun a hA => ?_
    refine stn hA (wn rfl) rfl (x_store rfl rfl ⟨wA, hrA, rfl⟩) fun wA' e => ?_
    subst e
    refine fin ?_
    refine rg ?_
    refine st0 hA (wn rfl) rfl rfl (x_fld rfl (fld52_0 _ _ _)) fun a hA => ?_
    refine st0 hA (wn rfl) rfl rfl (x_load rfl (r32A.load1 ag5 (by omega))) fun a hA => ?_
    refine st0 hA (wn rfl) rfl rfl (x_cv rfl (cv5_3 _ (by omega) (by omega))) fun a hA => ?_
    refine st0 hA (wn rfl) rfl rfl (x_idx rfl rfl (idxA _ _ _ _ Yba.underlying50 sz3 (by omega))) fun a hA => ?_
    refine stn hA (wn rfl) rfl (x_store rfl rfl ⟨wB, hrB, rfl⟩) fun wB' e => ?_
    subst e
    refine fin0 (n_in (n_th ?_))
    refine rg ?_
    refine st0 hA (wn rfl) rfl rfl (x_bin rfl rfl (add3N _ _ _ (by omega))) fun a hA => ?_
    refine st0 hA (wn rfl) rfl rfl (x_mv rfl) fun a hA => ?_
    have hpf : pf raw2 (k + 1) = putP (pf raw2 k) key (port : Int) := by rw [pf, hkey, hprt]
    have hpg : pg raw2 (k + 1) = putP (pg raw2 k) key 9 := by rw [pg, hkey]
    have hbmkk : bmk ≠ p.known := row_ne_map e1 hk4.map
    have hbmbk : bmb ≠ p.known := row_ne_map e2 hk4.map
    have hbmkb : bmk ≠ p.shown := row_ne_map e1 hb4.map
    have hbmbb : bmb ≠ p.shown := row_ne_map e2 hb4.map
    refine fin0 (n_th ⟨m - 1, by omega, k + 1, by omega, hA.pick [2, 3, 6, 7, 8, 14, 21, 22, 23, 24, 26, 27, 28, 29, 9, 126, 127, 128], ?_, ?_, ?_, ?_, ?_⟩)
    · exact (((hc7.comp c78 fun _ _ e => .inl e).comp c89 fun _ _ e => .inr (.inl e)).comp (Chg.of_up (X := (· = bmk)) uA rfl) fun _ _ e => .inr (.inr (.inl e))).comp (Chg.of_up (X := (· = bmb)) uB rfl) fun _ _ e => .inr (.inr (.inr e))
    · rw [hpf]
      exact (hk9.up uA hbmkk.symm).up uB hbmbk.symm
    · rw [hpg]
      exact (hb9.up uA hbmkb.symm).up uB hbmbb.symm
    · rw [hpf]
      exact Row.up eA uB n12
    · rw [hpg]
      exact eB
  rintro a w5 ⟨hA, hc5, hk5, hb5, f1, f2⟩
  have hLc : ∀ x, x < B0 → ¬ XP p bmk bmb x := hxlow
  exact law1 bL bOwn bD bmk bmb bmu n 0 mp B0 p fr whole plc rv raw d os vown { f := pf raw2 mp, g := pg raw2 mp, u := fun _ => none, kept := [] } R hn (by omega) (by omega) hlo hwd hraw hol hplc hself hfr (good_pf raw2 mp) (good_pg raw2 mp) good_none rfl hAp hdl ⟨hFk, hFb, hFu, hFl, by omega, by omega, by omega⟩ hFd n12 n13 n23 hlv hlr a w5 (Nat.le_trans hsz4 hc5.size) hA (Row.chg hL4 hc5 (hxrow _ _ _ _ hL4 (by decide))) (hO4.chg hc5 (hxrow _ _ _ _ hO4 (by decide))) (hB4.chg hc5 fun b o m c e => hxlow b (hlv b o m c e)) (hZ4.chg hc5 fun b o m c e => hxlow b (hlr b o m c e)) (hD4.chg hc5 (hxrow _ _ _ _ hD4 (by decide))) f1 f2 (Row.chg e3 hc5 hxmu) (hdd4.chg hc5 (hxmap _ ⟨_, _, hdd4⟩ (fun e => hAp.kd e.symm) (fun e => hAp.bd e.symm))) hk5 hb5 ((hu4.chg hc5 (hxmap _ hu4.map (fun e => hAp.ku e.symm) (fun e => hAp.bu e.symm))).mono (Nat.zero_le _)) (hM4.keep_nil hc5 (hxmap _ hM4.map (fun e => hAp.kl e.symm) (fun e => hAp.bl e.symm))) fun w6 h6 => hR w6 (((hc4.mono fun _ _ e => e.elim).comp hc5 fun x _ e => by rcases e with e | e | e | e <;> omega).trans h6)
end Go.Proofs.Ybulkcrtu
