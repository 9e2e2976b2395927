import Derived.Test.YbulkcrtuTO
namespace Go.Proofs.Ybulkcrtu
open Go.RowKit Go.ChangeMaps Go.MapKept

theorem mm43 (w : World) : (Instr.makeMap 43 none).run Yba.prog w = .ok (.map (some w.heap.size)) (w.alloc (.map #[] 0)) := by kernel_rfl
theorem mm44 (w : World) : (Instr.makeMap 44 none).run Yba.prog w = .ok (.map (some w.heap.size)) (w.alloc (.map #[] 0)) := by kernel_rfl
theorem mm45 (w : World) : (Instr.makeMap 45 none).run Yba.prog w = .ok (.map (some w.heap.size)) (w.alloc (.map #[] 0)) := by kernel_rfl
theorem mm46 (w : World) : (Instr.makeMap 46 none).run Yba.prog w = .ok (.map (some w.heap.size)) (w.alloc (.map #[] 0)) := by kernel_rfl
theorem bld49 (self : Int) (lo wd b1 b2 b3 b4 b5 b6 : Nat) (w : World) : (Instr.build 49 [(0, apV self), (1, keyV (lo : Int)), (3, keyV (wd : Int)), (4, Value.int .i64 0), (5, .map (some b1)), (6, .map (some b2)), (7, .map (some b3)), (8, .map (some b4)), (9, .map (some b5)), (10, .map (some b6))].toArray).run Yba.prog w = .ok (.agg (lkC { self := self, lo := lo, wd := wd, purpose := 0, known := b1, shown := b2, linked := b3, asked := b4, dead := b5, unheard := b6 }).toArray) w := by kernel_rfl
/-- w' is w with one new map, empty. -/
def MadeM (w w' : World) : Prop := Below w.heap.size w w' ∧ w'.heap.size = w.heap.size + 1 ∧ w'.heap[w.heap.size]? = some (.map #[] 0) ∧ MapP w' w.heap.size 0 (fun _ => none) ∧ MapK K65 w' w.heap.size 0 0 (fun _ => none)
theorem cntP_none : ∀ m, cntP (fun _ => none) m = 0
  | 0 => rfl
  | m + 1 => by rw [cntP, cntP_none m]; rfl
theorem mk_map {t : TypeId} (h : ∀ w : World, (Instr.makeMap t none).run Yba.prog w = .ok (.map (some w.heap.size)) (w.alloc (.map #[] 0))) (w : World) :
    ∃ w', (Instr.makeMap t none).run Yba.prog w = .ok (.map (some w.heap.size)) w' ∧ MadeM w w' := by
  refine ⟨_, h w, below_alloc _ _, by simp, ?_, ?_, MapK_made w⟩
  · show (w.heap.push _)[w.heap.size]? = _
    rw [Array.getElem?_push_size]
  · have h := MapK_made (K := K40) w
    unfold MapP
    rw [cntP_none]
    exact h
def lkPre (p : LkP) : List Value := apC p.self ++ keyC p.lo ++ zs 32 (.int .u8 0) ++ keyC p.wd
def lkPost (p : LkP) : List Value := [.map (some p.known), .map (some p.shown), .map (some p.linked), .map (some p.asked), .map (some p.dead), .map (some p.unheard), .slice none 0 0, .int .i64 0]
theorem lk_at100 (p : LkP) : lkC p = lkPre p ++ Value.int .i64 p.purpose :: lkPost p := rfl
theorem lk_purpose (p : LkP) (v : Int) (i : Nat) : (if i = 0 + 100 then Value.int .i64 v else (lkC p).getD i undef) = (lkC { p with purpose := v }).getD i undef := by
  have hl : (lkPre p).length = 100 := by simp [lkPre, keyC_len, apC, zs]
  have e2 : lkC { p with purpose := v } = lkPre p ++ Value.int .i64 v :: lkPost p := rfl
  rw [lk_at100, e2]
  generalize lkPre p = pre at hl
  rw [List.getD_eq_getElem?_getD, List.getD_eq_getElem?_getD]
  by_cases h1 : i < 100
  · rw [if_neg (by omega), List.getElem?_append_left (by omega), List.getElem?_append_left (by omega)]
  · rw [List.getElem?_append_right (by omega), List.getElem?_append_right (by omega), hl]
    by_cases h2 : i = 100
    · subst h2
      rfl
    · rw [if_neg (by omega), show i - 100 = (i - 101) + 1 by omega, List.getElem?_cons_succ, List.getElem?_cons_succ]
set_option maxRecDepth 100000 in
set_option maxHeartbeats 2000000 in
/-- The lookup is made, and what follows. -/
theorem law0c (bOwn bD n mp B0 lo wd : Nat) (self fr : Int) (whole plc : Bool) (rv pv : Value) (raw raw2 : Nat → Nat × Nat) (d : Nat → Bool) (os : List Bool) (vown : Value) (R : Ending → World → Prop)
    (hn : n ≤ 300) (hmp : mp ≤ 300) (hlo : lo ≤ 255) (hwd : wd ≤ 255) (hraw : ∀ k, k < n → (raw k).1 ≤ 255 ∧ (raw k).2 ≤ 255) (hraw2 : ∀ k, k < mp → (raw2 k).1 ≤ 255 ∧ (raw2 k).2 ≤ 255) (hol : os.length ≤ 9223372036854775807) (hself : 0 ≤ self ∧ self ≤ 9) (hfr : 0 ≤ fr ∧ fr ≤ 9)
    (hlv : ∀ b o n c, vown = .slice (some ⟨b, o, none⟩) n c → b < B0) (hlr : ∀ b o n c, rv = .slice (some ⟨b, o, none⟩) n c → b < B0) (hlp : ∀ b o n c, pv = .slice (some ⟨b, o, none⟩) n c → b < B0)
    (a : Act) (w : World) (hB0 : B0 ≤ w.heap.size) (hA : At a 499 [(2, rv), (3, .bool whole), (6, .bool plc), (7, .int .u8 (lo : Int)), (8, .int .u8 (wd : Int)), (14, .pointer (some ⟨bOwn, 0, none⟩)), (21, .int .i64 (n : Int)), (22, .int .u16 fr), (23, .int .u16 self), (24, .pointer (some ⟨bD, 0, none⟩)), (9, pv)]) (hO : Row w bOwn 23 1 (fun _ => vown)) (hB : Bools w vown os) (hZ : ZR w rv n raw) (hZp : ZR w pv mp raw2) (hD : Row w bD 26 5 (fun i => .bool (d i)))
    (hR : ∀ w', Chg (fun b => B0 ≤ b) w w' → R (.returned (.bool true)) w') : (dropS 7 (Yba.f3.body.getD .skip)).wp Yba.prog (bodyPost Yba.prog Yba.f3 R) a w := by
  refine sq ?_
  refine st0 hA (wn rfl) rfl rfl (x_mv rfl) fun a hA => ?_
  refine st hA (wn rfl) rfl rfl (x_call (cap := []) rfl rfl c6 (ap_of self w)) fun a w1 hA b1 => ?_
  refine st0 hA (wn rfl) rfl rfl (x_mv rfl) fun a hA => ?_
  refine st hA (wn rfl) rfl rfl (x_call (cap := []) rfl rfl c7 (key_any (lo : Int) w1)) fun a w2 hA b2 => ?_
  refine st0 hA (wn rfl) rfl rfl (x_mv rfl) fun a hA => ?_
  refine st hA (wn rfl) rfl rfl (x_call (cap := []) rfl rfl c7 (key_any (wd : Int) w2)) fun a w3 hA b3 => ?_
  obtain ⟨w4, hr4, m4⟩ := mk_map mm43 w3
  obtain ⟨w5, hr5, m5⟩ := mk_map mm43 w4
  obtain ⟨w6, hr6, m6⟩ := mk_map mm44 w5
  obtain ⟨w7, hr7, m7⟩ := mk_map mm45 w6
  obtain ⟨w8, hr8, m8⟩ := mk_map mm46 w7
  obtain ⟨w9, hr9, m9⟩ := mk_map mm43 w8
  refine st hA (wn rfl) rfl rfl (x_mkmap ⟨w4, hr4, rfl⟩) fun a w' hA e => ?_
  subst e
  refine st hA (wn rfl) rfl rfl (x_mkmap ⟨w5, hr5, rfl⟩) fun a w' hA e => ?_
  subst e
  refine st hA (wn rfl) rfl rfl (x_mkmap ⟨w6, hr6, rfl⟩) fun a w' hA e => ?_
  subst e
  refine st hA (wn rfl) rfl rfl (x_mkmap ⟨w7, hr7, rfl⟩) fun a w' hA e => ?_
  subst e
  refine st hA (wn rfl) rfl rfl (x_mkmap ⟨w8, hr8, rfl⟩) fun a w' hA e => ?_
  subst e
  refine st hA (wn rfl) rfl rfl (x_mkmap ⟨w9, hr9, rfl⟩) fun a w' hA e => ?_
  subst e
  refine st0 hA (wn rfl) rfl rfl (x_build rfl (bld49 self lo wd _ _ _ _ _ _ _)) fun a hA => ?_
  generalize hp : ({ self := self, lo := lo, wd := wd, purpose := 0, known := w3.heap.size, shown := w4.heap.size, linked := w5.heap.size, asked := w6.heap.size, dead := w7.heap.size, unheard := w8.heap.size } : LkP) = p at hA
  obtain ⟨w10, hr10, m10⟩ := mk_box (t := 49) (lkC p) w9
  refine st hA (wn rfl) rfl rfl (x_box rfl ⟨w10, hr10, rfl⟩) fun a w' hA e => ?_
  subst e
  refine st0 hA (wn rfl) rfl rfl (x_as rfl) fun a hA => ?_
  refine fin ?_
  have s1 := b1.size
  have s2 := b2.size
  have s3 := b3.size
  have s4 := m4.2.1
  have s5 := m5.2.1
  have s6 := m6.2.1
  have s7 := m7.2.1
  have s8 := m8.2.1
  have s9 := m9.2.1
  have s10 := m10.2.1
  have c4 := Chg.F m4.1
  have c5' := Chg.F m5.1
  have c6' := Chg.F m6.1
  have c7' := Chg.F m7.1
  have c8' := Chg.F m8.1
  have c9' := Chg.F m9.1
  have c10 := Chg.F m10.1
  have k9 := c9'.trans c10
  have k8 := c8'.trans k9
  have k7 := c7'.trans k8
  have k6 := c6'.trans k7
  have k5 := c5'.trans k6
  have k0 : Chg (fun _ => False) w w10 := (Chg.F b1).trans ((Chg.F b2).trans ((Chg.F b3).trans (c4.trans k5)))
  have hk : MapP w10 w3.heap.size 0 (fun _ => none) := m4.2.2.2.1.chg k5 id
  have hb : MapP w10 w4.heap.size 0 (fun _ => none) := m5.2.2.2.1.chg k6 id
  have hu : MapP w10 w8.heap.size 0 (fun _ => none) := m9.2.2.2.1.chg c10 id
  have hM : LinkM w10 w5.heap.size 0 0 [] fr := ⟨fun _ => none, m6.2.2.2.2.chg k7 id, fun q _ _ => by simp, fun q v _ _ e => by cases e⟩
  have hdd : IsDead w10 w7.heap.size (fun _ => false) := (k9.block _ (by omega) id).trans m8.2.2.1
  have hL : Lk w10 w9.heap.size p := by
    have := m10.row
    rw [lkC_len] at this
    exact this
  have hplo : p.lo = lo := by rw [← hp]
  have hpwd : p.wd = wd := by rw [← hp]
  have hps : p.self = self := by rw [← hp]
  have hpp : p.purpose = 0 := by rw [← hp]
  have hpk : p.known = w3.heap.size := by rw [← hp]
  have hpb : p.shown = w4.heap.size := by rw [← hp]
  have hpl : p.linked = w5.heap.size := by rw [← hp]
  have hpd : p.dead = w7.heap.size := by rw [← hp]
  have hpu : p.unheard = w8.heap.size := by rw [← hp]
  have hA : At a 499 [(2, rv), (3, .bool whole), (6, .bool plc), (7, .int .u8 (lo : Int)), (8, .int .u8 (wd : Int)), (14, .pointer (some ⟨bOwn, 0, none⟩)), (21, .int .i64 (n : Int)), (22, .int .u16 fr), (23, .int .u16 self), (24, .pointer (some ⟨bD, 0, none⟩)), (26, .pointer (some ⟨w9.heap.size, 0, none⟩)), (9, pv)] := hA.pick [2, 3, 6, 7, 8, 14, 21, 22, 23, 24, 26, 9]
  have hO' := hO.chg k0 id
  have hB' : Bools w10 vown os := hB.chg k0 fun _ _ _ _ _ => id
  have hZ' : ZR w10 rv n raw := hZ.chg k0 fun _ _ _ _ _ => id
  have hZp' : ZR w10 pv mp raw2 := hZp.chg k0 fun _ _ _ _ _ => id
  have hD' := hD.chg k0 id
  have hl10 := hL.lt
  cases plc with
  | false =>
    refine cut (fun a' w' => At a' 499 [(2, rv), (3, .bool whole), (6, .bool false), (7, .int .u8 (lo : Int)), (8, .int .u8 (wd : Int)), (14, .pointer (some ⟨bOwn, 0, none⟩)), (21, .int .i64 (n : Int)), (22, .int .u16 fr), (23, .int .u16 self), (24, .pointer (some ⟨bD, 0, none⟩)), (26, .pointer (some ⟨w9.heap.size, 0, none⟩)), (9, pv)] ∧ w10 = w') ?_ ?_
    · refine sq ?_
      refine st0 hA (wn rfl) rfl rfl (x_mv rfl) fun a hA => ?_
      refine fin ?_
      exact cdfs hA rfl ⟨hA.pick [2, 3, 6, 7, 8, 14, 21, 22, 23, 24, 26, 9], rfl⟩
    rintro a w11 ⟨hA2, rfl⟩
    subst hp
    exact law0b w9.heap.size bOwn bD n mp B0 { self := self, lo := lo, wd := wd, purpose := 0, known := w3.heap.size, shown := w4.heap.size, linked := w5.heap.size, asked := w6.heap.size, dead := w7.heap.size, unheard := w8.heap.size } fr whole false rv pv raw raw2 d os vown R hn hmp hlo hwd hraw hraw2 hol rfl hself hfr ⟨by simp only; omega, by simp only; omega, by simp only; omega, by simp only; omega, by simp only; omega, by simp only; omega, by simp only; omega, by simp only; omega, by simp only; omega⟩ (by simp only; omega) (by simp only; omega) (by simp only; omega) (by simp only; omega) (by simp only; omega) (by simp only; omega) hlv hlr hlp a _ (by omega) hA2 hL hO' hB' hZ' hZp' hD' hdd hk hb hu hM fun w' h => hR w' ((k0.mono fun _ _ e => e.elim).trans h)
  | true =>
    obtain ⟨w11, hr11, u11, r11⟩ := Row.store1 (ty := 42) (o := 0 + 100) hL (.int .i64 1) sz42 rfl (by omega)
    have hL11 : Lk w11 w9.heap.size { p with purpose := 1 } := r11.ext fun i _ => lk_purpose p 1 i
    have cu : Chg (· = w9.heap.size) w10 w11 := Chg.of_up u11 rfl
    refine cut (fun a' w' => At a' 499 [(2, rv), (3, .bool whole), (6, .bool true), (7, .int .u8 (lo : Int)), (8, .int .u8 (wd : Int)), (14, .pointer (some ⟨bOwn, 0, none⟩)), (21, .int .i64 (n : Int)), (22, .int .u16 fr), (23, .int .u16 self), (24, .pointer (some ⟨bD, 0, none⟩)), (26, .pointer (some ⟨w9.heap.size, 0, none⟩)), (9, pv)] ∧ w11 = w') ?_ ?_
    · refine sq ?_
      refine st0 hA (wn rfl) rfl rfl (x_mv rfl) fun a hA => ?_
      refine fin ?_
      refine cdt hA rfl ?_
      refine rg ?_
      refine st0 hA (wn rfl) rfl rfl (x_mv rfl) fun a hA => ?_
      refine st0 hA (wn rfl) rfl rfl (x_nil rfl) fun a hA => ?_
      refine st0 hA (wn rfl) rfl rfl (x_fld rfl (fld49_4 _ _ _)) fun a hA => ?_
      refine stn hA (wn rfl) rfl (x_store rfl rfl ⟨w11, hr11, rfl⟩) fun w' e => ?_
      subst e
      exact fin0 (n_th ⟨hA.pick [2, 3, 6, 7, 8, 14, 21, 22, 23, 24, 26, 9], rfl⟩)
    rintro a w11' ⟨hA2, rfl⟩
    subst hp
    have hlo' : ∀ x, x < w9.heap.size → ¬ (x = w9.heap.size) := fun x h e => by omega
    have hk11 := hk.up u11 (by omega)
    have hb11 := hb.up u11 (by omega)
    have hu11 := hu.up u11 (by omega)
    have hd11 : IsDead w11 w7.heap.size (fun _ => false) := (u11.block _ (by omega)).trans hdd
    have hM11 : LinkM w11 w5.heap.size 0 0 [] fr := hM.keep_nil cu (by omega)
    have e9 : w.heap.size ≤ w9.heap.size := by omega
    have hO11 := hO'.chg cu (by have := hO.lt; omega)
    have hD11 := hD'.chg cu (by have := hD.lt; omega)
    have hB11 : Bools w11 vown os := hB'.chg cu fun b o n c e e' => by have := hlv b o n c e; omega
    have hZ11 : ZR w11 rv n raw := hZ'.chg cu fun b o n c e e' => by have := hlr b o n c e; omega
    have hZp11 : ZR w11 pv mp raw2 := hZp'.chg cu fun b o n c e e' => by have := hlp b o n c e; omega
    exact law0b w9.heap.size bOwn bD n mp B0 { self := self, lo := lo, wd := wd, purpose := 1, known := w3.heap.size, shown := w4.heap.size, linked := w5.heap.size, asked := w6.heap.size, dead := w7.heap.size, unheard := w8.heap.size } fr whole true rv pv raw raw2 d os vown R hn hmp hlo hwd hraw hraw2 hol rfl hself hfr ⟨by simp only; omega, by simp only; omega, by simp only; omega, by simp only; omega, by simp only; omega, by simp only; omega, by simp only; omega, by simp only; omega, by simp only; omega⟩ (by simp only; omega) (by simp only; omega) (by simp only; omega) (by simp only; omega) (by simp only; omega) (by simp only; omega) hlv hlr hlp a _ (by have := u11.size; omega) hA2 hL11 hO11 hB11 hZ11 hZp11 hD11 hd11 hk11 hb11 hu11 hM11 fun w' h => hR w' ((((k0.mono fun _ _ e => e.elim).comp cu fun x hx e => by
      have : x = w9.heap.size := e
      omega)).trans h)
end Go.Proofs.Ybulkcrtu
