import Derived.Test.YbulkcrtuTP
namespace Go.Proofs.Ybulkcrtu
open Go.RowKit Go.ChangeMaps Go.MapKept

theorem Chg.below {w w' : World} (h : Chg (fun b => w.heap.size ≤ b) w w') : Below w.heap.size w w' := ⟨h.os, h.tape, h.output, h.size, fun b hb => h.block b hb (by omega)⟩
theorem portOf_le (x : Int) : 0 ≤ portOf x ∧ portOf x ≤ 9 := by unfold portOf; omega
set_option maxRecDepth 100000 in
set_option maxHeartbeats 2000000 in
/-- The law holds of all arguments. -/
theorem law_walk (fr self : Int) (lo wd n mp : Nat) (whole plc : Bool) (rv pv vown dv : Value) (raw raw2 : Nat → Nat × Nat) (os ds : List Bool) (W : World)
    (hfr : 0 ≤ fr ∧ fr ≤ 255) (hself : 0 ≤ self ∧ self ≤ 255) (hlo : lo ≤ 255) (hwd : wd ≤ 255) (hraw : ∀ k, k < n → (raw k).1 ≤ 255 ∧ (raw k).2 ≤ 255) (hraw2 : ∀ k, k < mp → (raw2 k).1 ≤ 255 ∧ (raw2 k).2 ≤ 255) (hol : os.length ≤ 9223372036854775807)
    (hlv : ∀ b o n c, vown = .slice (some ⟨b, o, none⟩) n c → b < W.heap.size) (hlr : ∀ b o n c, rv = .slice (some ⟨b, o, none⟩) n c → b < W.heap.size) (hlp : ∀ b o n c, pv = .slice (some ⟨b, o, none⟩) n c → b < W.heap.size)
    (hB : Bools W vown os) (hE : Bools W dv ds) (hZ : ZR W rv n raw) (hZp : ZR W pv mp raw2) :
    Calls Yba.prog 3 #[.int .u8 fr, .int .u8 self, rv, .bool whole, vown, dv, .bool plc, .int .u8 (lo : Int), .int .u8 (wd : Int), pv] W fun e w' => e = .returned (.bool true) ∧ Below W.heap.size W w' := by
  refine enter (args := [.int .u8 fr, .int .u8 self, rv, .bool whole, vown, dv, .bool plc, .int .u8 (lo : Int), .int .u8 (wd : Int), pv]) Yba.func3 rfl 499 Yba.ntmps3 rfl fun a hA => ?_
  obtain ⟨w1, hr1, m1⟩ := mk_box1 (t := 23) vown (by obtain ⟨p, c, rfl, _⟩ := hB; rfl) W
  have hs1 : w1.heap.size = W.heap.size + 1 := m1.2.1
  have c1 : Chg (fun _ => False) W w1 := Chg.F m1.1
  have hO1 : Row w1 W.heap.size 23 1 (fun _ => vown) := m1.row.ext fun i hi => by
    have : i = 0 := by have : i < 1 := hi; omega
    subst this
    rfl
  refine sq ?_
  refine st hA (wn rfl) rfl rfl (x_box rfl ⟨w1, hr1, rfl⟩) fun a w' hA e => ?_
  subst e
  refine st0 hA (wn rfl) rfl rfl (x_as rfl) fun a hA => ?_
  refine fin ?_
  have hA : At a 499 [(0, .int .u8 fr), (1, .int .u8 self), (2, rv), (3, .bool whole), (5, dv), (6, .bool plc), (7, .int .u8 (lo : Int)), (8, .int .u8 (wd : Int)), (9, pv), (14, .pointer (some ⟨W.heap.size, 0, none⟩)), (20, .bool false)] := hA.pick [0, 1, 2, 3, 5, 6, 7, 8, 9, 14, 20]
  obtain ⟨rp, rc, hrv⟩ := hZ.len
  obtain ⟨pp, pc, hpv⟩ := hZp.len
  have hret : (.returned (.bool true) : Ending) = .returned (.bool true) ∧ Below W.heap.size W w1 := ⟨rfl, m1.1⟩
  refine cut (fun a' w' => At a' 499 [(0, .int .u8 fr), (1, .int .u8 self), (2, rv), (3, .bool whole), (5, dv), (6, .bool plc), (7, .int .u8 (lo : Int)), (8, .int .u8 (wd : Int)), (9, pv), (14, .pointer (some ⟨W.heap.size, 0, none⟩))] ∧ w1 = w' ∧ n ≤ 300 ∧ mp ≤ 300) ?_ ?_
  · by_cases h1 : n > 300
    · refine sq ?_
      refine st0 hA (wn rfl) rfl rfl (x_mv rfl) fun a hA => ?_
      rw [hrv] at hA
      refine st0 hA (wn rfl) rfl rfl (x_len rfl Yba.underlying22) fun a hA => ?_
      refine st0 hA (wn rfl) rfl rfl (x_bin rfl rfl (gtr3T _ _ _ _ (by omega))) fun a hA => ?_
      refine st0 hA (wn rfl) rfl rfl (x_mv rfl) fun a hA => ?_
      refine sts hA (sh rfl rfl rfl rfl) rfl rfl fun a hA => ?_
      refine sts hA (sh rfl rfl rfl rfl) rfl rfl fun a hA => ?_
      refine sts hA (sh rfl rfl rfl rfl) rfl rfl fun a hA => ?_
      refine st0 hA (wn rfl) rfl rfl (x_pick rfl rfl) fun a hA => ?_
      refine fin ?_
      refine cdt hA rfl ?_
      refine sq ?_
      refine st0 hA (wn rfl) rfl rfl (x_as rfl) fun a hA => ?_
      refine fin ?_
      exact wp_ret (r_th (rt hA rfl rfl hret))
    · by_cases h2 : mp > 300
      · refine sq ?_
        refine st0 hA (wn rfl) rfl rfl (x_mv rfl) fun a hA => ?_
        rw [hrv] at hA
        refine st0 hA (wn rfl) rfl rfl (x_len rfl Yba.underlying22) fun a hA => ?_
        refine st0 hA (wn rfl) rfl rfl (x_bin rfl rfl (gtr3F _ _ _ _ (by omega))) fun a hA => ?_
        refine st0 hA (wn rfl) rfl rfl (x_mv rfl) fun a hA => ?_
        refine st0 hA (wy rfl rfl rfl) rfl rfl (x_mv rfl) fun a hA => ?_
        rw [hpv] at hA
        refine st0 hA (wy rfl rfl rfl) rfl rfl (x_len rfl Yba.underlying22) fun a hA => ?_
        refine st0 hA (wy rfl rfl rfl) rfl rfl (x_bin rfl rfl (gtr3T _ _ _ _ (by omega))) fun a hA => ?_
        refine st0 hA (wn rfl) rfl rfl (x_pick rfl rfl) fun a hA => ?_
        refine fin ?_
        refine cdt hA rfl ?_
        refine sq ?_
        refine st0 hA (wn rfl) rfl rfl (x_as rfl) fun a hA => ?_
        refine fin ?_
        exact wp_ret (r_th (rt hA rfl rfl hret))
      · refine sq ?_
        refine st0 hA (wn rfl) rfl rfl (x_mv rfl) fun a hA => ?_
        rw [hrv] at hA
        refine st0 hA (wn rfl) rfl rfl (x_len rfl Yba.underlying22) fun a hA => ?_
        refine st0 hA (wn rfl) rfl rfl (x_bin rfl rfl (gtr3F _ _ _ _ (by omega))) fun a hA => ?_
        refine st0 hA (wn rfl) rfl rfl (x_mv rfl) fun a hA => ?_
        refine st0 hA (wy rfl rfl rfl) rfl rfl (x_mv rfl) fun a hA => ?_
        rw [hpv] at hA
        refine st0 hA (wy rfl rfl rfl) rfl rfl (x_len rfl Yba.underlying22) fun a hA => ?_
        refine st0 hA (wy rfl rfl rfl) rfl rfl (x_bin rfl rfl (gtr3F _ _ _ _ (by omega))) fun a hA => ?_
        refine st0 hA (wn rfl) rfl rfl (x_pick rfl rfl) fun a hA => ?_
        refine fin ?_
        rw [← hrv, ← hpv] at hA
        exact cdfs hA rfl ⟨hA.pick [0, 1, 2, 3, 5, 6, 7, 8, 9, 14], rfl, by omega, by omega⟩
  rintro a w1' ⟨hA, rfl, hn, hmp⟩
  refine sq ?_
  refine st0 hA (wn rfl) rfl rfl (x_mv rfl) fun a hA => ?_
  rw [hrv] at hA
  refine st0 hA (wn rfl) rfl rfl (x_len rfl Yba.underlying22) fun a hA => ?_
  refine st0 hA (wn rfl) rfl rfl (x_as rfl) fun a hA => ?_
  rw [← hrv] at hA
  refine fin ?_
  refine sq ?_
  refine st0 hA (wn rfl) rfl rfl (x_mv rfl) fun a hA => ?_
  refine st hA (wn rfl) rfl rfl (x_call (cap := []) rfl rfl c5 (port_any fr hfr.1 hfr.2 w1)) fun a w' hA e => ?_
  subst e
  refine st0 hA (wn rfl) rfl rfl (x_as rfl) fun a hA => ?_
  refine fin ?_
  refine sq ?_
  refine st0 hA (wn rfl) rfl rfl (x_mv rfl) fun a hA => ?_
  refine st hA (wn rfl) rfl rfl (x_call (cap := []) rfl rfl c5 (port_any self hself.1 hself.2 w')) fun a w2 hA e => ?_
  subst e
  refine st0 hA (wn rfl) rfl rfl (x_as rfl) fun a hA => ?_
  refine fin ?_
  obtain ⟨w3, hr3, m3⟩ := mk_alloc _ al26 w2
  have hs3 : w3.heap.size = w2.heap.size + 1 := m3.2.1
  have hD3 : Row w3 w2.heap.size 26 5 (fun i => .bool ((fun _ => false) i)) := m3.row.ext fun i hi => by
    have hi' : i < 5 := hi
    rw [zs, List.getD_eq_getElem?_getD, List.getElem?_replicate, if_pos hi']
    rfl
  have c3 : Chg (fun _ => False) W w3 := c1.trans (Chg.F m3.1)
  refine sq ?_
  refine st hA (wn rfl) rfl rfl (x_alloc ⟨w3, hr3, rfl⟩) fun a w' hA e => ?_
  subst e
  refine fin ?_
  have hA : At a 499 [(2, rv), (3, .bool whole), (5, dv), (6, .bool plc), (7, .int .u8 (lo : Int)), (8, .int .u8 (wd : Int)), (14, .pointer (some ⟨W.heap.size, 0, none⟩)), (21, .int .i64 (n : Int)), (22, .int .u16 (portOf fr)), (23, .int .u16 (portOf self)), (24, .pointer (some ⟨w2.heap.size, 0, none⟩)), (9, pv)] := hA.pick [2, 3, 5, 6, 7, 8, 14, 21, 22, 23, 24, 9]
  refine cut (fun a' w' => At a' 499 [(2, rv), (3, .bool whole), (6, .bool plc), (7, .int .u8 (lo : Int)), (8, .int .u8 (wd : Int)), (14, .pointer (some ⟨W.heap.size, 0, none⟩)), (21, .int .i64 (n : Int)), (22, .int .u16 (portOf fr)), (23, .int .u16 (portOf self)), (24, .pointer (some ⟨w2.heap.size, 0, none⟩)), (9, pv)] ∧ Chg (fun _ => False) W w' ∧ Row w' W.heap.size 23 1 (fun _ => vown) ∧ ∃ d : Nat → Bool, Row w' w2.heap.size 26 5 (fun i => .bool (d i))) ?_ ?_
  · refine sq ?_
    refine st0 hA (wn rfl) rfl rfl (x_as rfl) fun a hA => ?_
    refine fin ?_
    refine lpb (fun m a' w' => ∃ k : Nat, k + m = 4 ∧ At a' 499 [(2, rv), (3, .bool whole), (5, dv), (6, .bool plc), (7, .int .u8 (lo : Int)), (8, .int .u8 (wd : Int)), (14, .pointer (some ⟨W.heap.size, 0, none⟩)), (21, .int .i64 (n : Int)), (22, .int .u16 (portOf fr)), (23, .int .u16 (portOf self)), (24, .pointer (some ⟨w2.heap.size, 0, none⟩)), (9, pv), (25, .int .i64 (k : Int))] ∧ Chg (fun _ => False) W w' ∧ Row w' W.heap.size 23 1 (fun _ => vown) ∧ ∃ d : Nat → Bool, Row w' w2.heap.size 26 5 (fun i => .bool (d i))) 4 ⟨0, by omega, hA.pick [2, 3, 5, 6, 7, 8, 14, 21, 22, 23, 24, 9, 25], c3, hO1.below m3.1 (by omega), _, hD3⟩ ?_
    rintro m a w4 ⟨k, hkm, hA, hc4, hO4, d, hD4⟩
    have hE4 : Bools w4 dv ds := hE.chg hc4 fun _ _ _ _ _ => id
    obtain ⟨dp, dc, hdv, hcell⟩ := hE4
    refine wp_seq ?_
    by_cases h1 : k < 4
    case neg =>
      refine sq ?_
      refine st0 hA (wn rfl) rfl rfl (x_mv rfl) fun a hA => ?_
      refine st0 hA (wn rfl) rfl rfl (x_bin rfl rfl (lss3F _ _ _ _ (by omega))) fun a hA => ?_
      refine st0 hA (wn rfl) rfl rfl (x_mv rfl) fun a hA => ?_
      refine sts hA (sh rfl rfl rfl rfl) rfl rfl fun a hA => ?_
      refine sts hA (sh rfl rfl rfl rfl) rfl rfl fun a hA => ?_
      refine sts hA (sh rfl rfl rfl rfl) rfl rfl fun a hA => ?_
      refine sts hA (sh rfl rfl rfl rfl) rfl rfl fun a hA => ?_
      refine st0 hA (wn rfl) rfl rfl (x_pick rfl rfl) fun a hA => ?_
      refine fin ?_
      exact cdfe hA rfl (x_th (xin (n_th ⟨hA.pick [2, 3, 6, 7, 8, 14, 21, 22, 23, 24, 9], hc4, hO4, d, hD4⟩)))
    by_cases h2 : k < ds.length
    case neg =>
      refine sq ?_
      refine st0 hA (wn rfl) rfl rfl (x_mv rfl) fun a hA => ?_
      refine st0 hA (wn rfl) rfl rfl (x_bin rfl rfl (lss3T _ _ _ _ (by omega))) fun a hA => ?_
      refine st0 hA (wn rfl) rfl rfl (x_mv rfl) fun a hA => ?_
      refine st0 hA (wy rfl rfl rfl) rfl rfl (x_mv rfl) fun a hA => ?_
      refine st0 hA (wy rfl rfl rfl) rfl rfl (x_mv rfl) fun a hA => ?_
      rw [hdv] at hA
      refine st0 hA (wy rfl rfl rfl) rfl rfl (x_len rfl Yba.underlying23) fun a hA => ?_
      refine st0 hA (wy rfl rfl rfl) rfl rfl (x_bin rfl rfl (lss3F _ _ _ _ (by omega))) fun a hA => ?_
      refine st0 hA (wn rfl) rfl rfl (x_pick rfl rfl) fun a hA => ?_
      refine fin ?_
      exact cdfe hA rfl (x_th (xin (n_th ⟨hA.pick [2, 3, 6, 7, 8, 14, 21, 22, 23, 24, 9], hc4, hO4, d, hD4⟩)))
    refine sq ?_
    refine st0 hA (wn rfl) rfl rfl (x_mv rfl) fun a hA => ?_
    refine st0 hA (wn rfl) rfl rfl (x_bin rfl rfl (lss3T _ _ _ _ (by omega))) fun a hA => ?_
    refine st0 hA (wn rfl) rfl rfl (x_mv rfl) fun a hA => ?_
    refine st0 hA (wy rfl rfl rfl) rfl rfl (x_mv rfl) fun a hA => ?_
    refine st0 hA (wy rfl rfl rfl) rfl rfl (x_mv rfl) fun a hA => ?_
    rw [hdv] at hA
    refine st0 hA (wy rfl rfl rfl) rfl rfl (x_len rfl Yba.underlying23) fun a hA => ?_
    refine st0 hA (wy rfl rfl rfl) rfl rfl (x_bin rfl rfl (lss3T _ _ _ _ (by omega))) fun a hA => ?_
    refine st0 hA (wn rfl) rfl rfl (x_pick rfl rfl) fun a hA => ?_
    refine fin ?_
    refine cdts hA rfl ?_
    obtain ⟨b, o, hdp, hcl⟩ := hcell k ds[k] (List.getElem?_eq_getElem h2)
    rw [hdp] at hA
    have hld4 : (Instr.loadAt 4 (.pointer (some ⟨b, o + k * 1, none⟩))).run Yba.prog w4 = .ok (.bool ds[k]) w4 := load_cell ag4 w4 _ _ (by rw [Nat.mul_one]; exact hcl)
    obtain ⟨w5, hr5, u5, r5⟩ := hD4.store1 (ty := 4) (o := 0 + (k + 1) * 1) (.bool ds[k]) sz4 rfl (by omega)
    refine sqb ?_
    refine rg ?_
    refine st0 hA (wn rfl) rfl rfl (x_mv rfl) fun a hA => ?_
    refine st0 hA (wn rfl) rfl rfl (x_bin rfl rfl (add3N _ _ _ (by omega))) fun a hA => ?_
    refine st0 hA (wn rfl) rfl rfl (x_mv rfl) fun a hA => ?_
    refine st0 hA (wn rfl) rfl rfl (x_mv rfl) fun a hA => ?_
    refine st0 hA (wn rfl) rfl rfl (x_idx rfl rfl (idxS _ _ _ _ _ _ Yba.underlying23 sz4 h2)) fun a hA => ?_
    refine st0 hA (wn rfl) rfl rfl (x_load rfl hld4) fun a hA => ?_
    refine st0 hA (wn rfl) rfl rfl (x_idx rfl rfl (idxA _ _ _ _ Yba.underlying26 sz4 (by omega))) fun a hA => ?_
    refine stn hA (wn rfl) rfl (x_store rfl rfl ⟨w5, hr5, rfl⟩) fun w' e => ?_
    subst e
    refine fin0 (n_in (n_th ?_))
    rw [← hdp, ← hdv] at hA
    refine rg ?_
    refine st0 hA (wn rfl) rfl rfl (x_mv rfl) fun a hA => ?_
    refine st0 hA (wn rfl) rfl rfl (x_bin rfl rfl (add3N _ _ _ (by omega))) fun a hA => ?_
    refine st0 hA (wn rfl) rfl rfl (x_as rfl) fun a hA => ?_
    have hne : W.heap.size ≠ w2.heap.size := by omega
    exact fin0 (n_th ⟨m - 1, by omega, k + 1, by omega, hA.pick [2, 3, 5, 6, 7, 8, 14, 21, 22, 23, 24, 9, 25], hc4.comp (Chg.of_up (X := (· = w2.heap.size)) u5 rfl) (fun x hx e => by
      have : x = w2.heap.size := e
      omega), hO4.up u5 hne, (fun i => if i = 0 + (k + 1) * 1 then ds[k] else d i), r5.ext fun i hi => by
      by_cases e : i = 0 + (k + 1) * 1
      · simp only [if_pos e]
      · simp only [if_neg e]⟩)
  rintro a w4 ⟨hA, hc4, hO4, d, hD4⟩
  exact law0c W.heap.size w2.heap.size n mp W.heap.size lo wd (portOf self) (portOf fr) whole plc rv pv raw raw2 d os vown _ hn hmp hlo hwd hraw hraw2 hol (portOf_le _) (portOf_le _) hlv hlr hlp a w4 hc4.size hA hO4 (hB.chg hc4 fun _ _ _ _ _ => id) (hZ.chg hc4 fun _ _ _ _ _ => id) (hZp.chg hc4 fun _ _ _ _ _ => id) hD4 fun w' h => ⟨rfl, ((hc4.mono fun _ _ e => e.elim).trans h).below⟩
end Go.Proofs.Ybulkcrtu
