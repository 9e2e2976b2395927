import Derived.Test.YbulkcrtuTJ
namespace Go.Proofs.Ybulkcrtu
open Go.RowKit Go.ChangeMaps Go.MapKept

theorem eql24 (x y : Operand) (m n : Int) : Bin .eql 24 x y (.int .u16 m) (.int .u16 n) (.bool (decide (m = n))) := fun w => by simp [go_sem, eqGuard]; rfl
theorem eql24T (x y : Operand) (m n : Int) (h : m = n) : Bin .eql 24 x y (.int .u16 m) (.int .u16 n) (.bool true) := by have := eql24 x y m n; rwa [decide_eq_true h] at this
theorem eql24F (x y : Operand) (m n : Int) (h : ¬ m = n) : Bin .eql 24 x y (.int .u16 m) (.int .u16 n) (.bool false) := by have := eql24 x y m n; rwa [decide_eq_false h] at this
/-- The law's argument of routes. -/
def ZR (w : World) (v : Value) (n : Nat) (raw : Nat → Nat × Nat) : Prop := ∃ p c, v = .slice p n c ∧ ∀ k, k < n → ∃ b o, p = some ⟨b, o, none⟩ ∧ w.cell? ⟨b, o + k * 2, none⟩ = some (.int .u8 ((raw k).1 : Int)) ∧ w.cell? ⟨b, o + k * 2 + 1, none⟩ = some (.int .u8 ((raw k).2 : Int))
def rsOf (raw : Nat → Nat × Nat) (i : Nat) : Nat × Nat := ((raw i).1, (raw i).2 % 4 + 1)
theorem portOf_nat (x : Nat) : portOf (x : Int) = ((x % 4 + 1 : Nat) : Int) := by unfold portOf; omega
theorem ZR.load {w : World} {v : Value} {n : Nat} {raw : Nat → Nat × Nat} (h : ZR w v n raw) {k : Nat} (hk : k < n) : ∃ b o c, v = .slice (some ⟨b, o, none⟩) n c ∧ (Instr.loadAt 52 (.pointer (some ⟨b, o + k * 2, none⟩))).run Yba.prog w = .ok (.agg [Value.int .u8 ((raw k).1 : Int), .int .u8 ((raw k).2 : Int)].toArray) w := by
  obtain ⟨p, c, rfl, h⟩ := h
  obtain ⟨b, o, rfl, h1, h2⟩ := h k hk
  refine ⟨b, o, c, rfl, run_loadAt_mid w b (o + k * 2) 52 _ _ (fun j u hj => ?_) Yba.underlying52 rfl info52⟩
  have hl := lt_cells hj
  simp only [List.length_cons, List.length_nil] at hl
  have : j = 0 ∨ j = 1 := by omega
  rcases this with rfl | rfl
  · simp only [List.getElem?_cons_zero, Option.some.injEq] at hj
    rw [← hj]; exact h1
  · simp only [List.getElem?_cons_succ, List.getElem?_cons_zero, Option.some.injEq] at hj
    rw [← hj]; exact h2
theorem ZR.chg {w w' : World} {v : Value} {n : Nat} {raw : Nat → Nat × Nat} (h : ZR w v n raw) {X : Nat → Prop} (hc : Chg X w w') (hx : ∀ b o n c, v = .slice (some ⟨b, o, none⟩) n c → ¬ X b) : ZR w' v n raw := by
  obtain ⟨p, c, rfl, h⟩ := h
  refine ⟨p, c, rfl, fun k hk => ?_⟩
  obtain ⟨b, o, rfl, h1, h2⟩ := h k hk
  have hb := hc.block b (World.block_lt_of_cell? w _ h1) (hx b o _ _ rfl)
  exact ⟨b, o, rfl, (World.cell?_of_block hb).trans h1, (World.cell?_of_block hb).trans h2⟩
theorem ZR.len {w : World} {v : Value} {n : Nat} {raw : Nat → Nat × Nat} (h : ZR w v n raw) : ∃ p c, v = .slice p n c := by
  obtain ⟨p, c, rfl, _⟩ := h
  exact ⟨p, c, rfl⟩
theorem enc_put (f : Ports) (k : Nat) (v : Int) (j : Nat) : enc (putP f k v) j = if j = k then v else enc f j := by
  unfold enc putP
  split <;> rfl
theorem Enc.put {w : World} {b : Nat} {f : Ports} (h : Enc w b f) {k : Nat} (hk : k ≤ 255) (v : Int) : ∃ w', (Instr.storeAt 3 (.pointer (some ⟨b, 0 + k * 1, none⟩)) (.int .i64 v)).run Yba.prog w = .ok () w' ∧ Up w w' b ∧ Enc w' b (putP f k v) := by
  obtain ⟨w', h1, h2, h3⟩ := Row.store1 (ty := 3) (o := 0 + k * 1) h (.int .i64 v) sz3 rfl (by omega)
  refine ⟨w', h1, h2, h3.ext fun i hi => ?_⟩
  rw [enc_put]
  by_cases e : i = 0 + k * 1
  · rw [if_pos e, if_pos (by omega)]
  · rw [if_neg e, if_neg (by omega)]
theorem Enc.get {w : World} {b : Nat} {f : Ports} (h : Enc w b f) {k : Nat} (hk : k ≤ 255) : (Instr.loadAt 3 (.pointer (some ⟨b, 0 + k * 1, none⟩))).run Yba.prog w = .ok (.int .i64 (enc f k)) w := by
  have := Row.load1 (o := 0 + k * 1) h ag3 (by omega)
  rw [show enc f (0 + k * 1) = enc f k by rw [Nat.zero_add, Nat.mul_one]] at this
  exact this
def X4 (bmk bmb bmu b : Nat) : Prop := b = bmk ∨ b = bmb ∨ b = bmu
/-- Where the law's model stands. -/
structure Mdl (w w' : World) (bmk bmb bmu : Nat) (s : TS) (kv : Value) : Prop where
  chg : Chg (X4 bmk bmb bmu) w w'
  ek : Enc w' bmk s.f
  eb : Enc w' bmb s.g
  eu : Enc w' bmu s.u
  kept : w'.ownsRow w.heap.size 3 1 kv s.kept.length (intsC s.kept)
theorem Mdl.keep {w w' w'' : World} {bmk bmb bmu : Nat} {s : TS} {kv : Value} (h : Mdl w w' bmk bmb bmu s kv) (hc : Chg (fun _ => False) w' w'') : Mdl w w'' bmk bmb bmu s kv :=
  ⟨h.chg.comp hc fun _ _ e => e.elim, Row.chg h.ek hc id, Row.chg h.eb hc id, Row.chg h.eu hc id, owns_keep h.kept hc fun _ _ => id⟩
theorem enc_ge {f : Ports} (hf : Good f) (k : Nat) : (enc f k ≥ 0) ↔ (f k).isSome = true := by
  unfold enc
  cases h : f k with
  | none => simp
  | some q =>
    have := hf k q h
    simp
    omega
theorem good_put {f : Ports} (hf : Good f) (k : Nat) (v : Int) (hv : 0 ≤ v ∧ v ≤ 9) : Good (putP f k v) := by
  intro j q hq
  unfold putP at hq
  by_cases e : j = k
  · rw [if_pos e] at hq
    obtain rfl := Option.some.inj hq
    exact hv
  · rw [if_neg e] at hq
    exact hf j q hq
theorem good_step (c : Ctx) (s : TS) (i k a : Nat) (hf : Good s.f) (hg : Good s.g) (hu : Good s.u) (ha : a ≤ 9) (hfr : 0 ≤ c.from' ∧ c.from' ≤ 9) : Good (stepR c s i k a).f ∧ Good (stepR c s i k a).g ∧ Good (stepR c s i k a).u := by
  have h1 := good_put hf k a (by omega)
  have h2 := good_put hg k c.from' hfr
  have h3 := good_put hu k a (by omega)
  unfold stepR
  repeat' split
  all_goals first | exact ⟨hf, hg, hu⟩ | exact ⟨hf, hg, h3⟩ | exact ⟨h1, h2, hu⟩ | exact ⟨hf, h2, hu⟩
theorem good_run (c : Ctx) (rs : Nat → Nat × Nat) (s : TS) (hf : Good s.f) (hg : Good s.g) (hu : Good s.u) (hfr : 0 ≤ c.from' ∧ c.from' ≤ 9) : ∀ m, (∀ i, i < m → (rs i).2 ≤ 9) → Good (runR c rs s m).f ∧ Good (runR c rs s m).g ∧ Good (runR c rs s m).u
  | 0, _ => ⟨hf, hg, hu⟩
  | m + 1, h => by
    obtain ⟨h1, h2, h3⟩ := good_run c rs s hf hg hu hfr m fun i hi => h i (by omega)
    exact good_step c _ m _ _ h1 h2 h3 (h m (by omega)) hfr
set_option maxRecDepth 100000 in
set_option maxHeartbeats 2000000 in
/-- One round of the law's model. -/
theorem iterM (bL bR bOwn bD bmk bmb bmu n k : Nat) (p : LkP) (fr : Int) (whole plc : Bool) (rv : Value) (raw : Nat → Nat × Nat) (d : Nat → Bool) (s : TS) (kv : Value) (K : Act → World → Prop) (Q : Exit → Act → World → Prop)
    (hn : n ≤ 300) (hk : k < n) (hlo : p.lo ≤ 255) (hwd : p.wd ≤ 255) (hr1 : (raw k).1 ≤ 255) (hr2 : (raw k).2 ≤ 255) (hlen : s.kept.length ≤ k) (hplc : plc = decide (p.purpose = 1)) (hself : 0 ≤ p.self ∧ p.self ≤ 9) (hfr : 0 ≤ fr ∧ fr ≤ 9) (hgf : Good s.f)
    (h12 : bmk ≠ bmb) (h13 : bmk ≠ bmu) (h23 : bmb ≠ bmu)
    (a : Act) (w w1 : World) (hA : At a 499 [(2, rv), (3, .bool whole), (6, .bool plc), (7, .int .u8 (p.lo : Int)), (8, .int .u8 (p.wd : Int)), (14, .pointer (some ⟨bOwn, 0, none⟩)), (21, .int .i64 (n : Int)), (22, .int .u16 fr), (23, .int .u16 p.self), (24, .pointer (some ⟨bD, 0, none⟩)), (26, .pointer (some ⟨bL, 0, none⟩)), (27, .pointer (some ⟨bmk, 0, none⟩)), (28, .pointer (some ⟨bmb, 0, none⟩)), (29, .pointer (some ⟨bmu, 0, none⟩)), (36, .slice (some ⟨bR, 0, none⟩) n n), (43, kv), (234, rv), (235, .int .i64 (n : Int)), (236, .int .i64 (k : Int))]) (hZ : ZR w1 rv n raw) (hD : Row w1 bD 26 5 (fun i => .bool (d i))) (hmod : Mdl w w1 bmk bmb bmu s kv)
    (hdone : ∀ a' w' kv', At a' 499 [(2, rv), (3, .bool whole), (6, .bool plc), (7, .int .u8 (p.lo : Int)), (8, .int .u8 (p.wd : Int)), (14, .pointer (some ⟨bOwn, 0, none⟩)), (21, .int .i64 (n : Int)), (22, .int .u16 fr), (23, .int .u16 p.self), (24, .pointer (some ⟨bD, 0, none⟩)), (26, .pointer (some ⟨bL, 0, none⟩)), (27, .pointer (some ⟨bmk, 0, none⟩)), (28, .pointer (some ⟨bmb, 0, none⟩)), (29, .pointer (some ⟨bmu, 0, none⟩)), (36, .slice (some ⟨bR, 0, none⟩) n n), (43, kv'), (234, rv), (235, .int .i64 (n : Int)), (236, .int .i64 (k : Int))] → Mdl w w' bmk bmb bmu (stepR (ctxOf p d fr) s k (raw k).1 ((raw k).2 % 4 + 1)) kv' → K a' w') :
    (sub [1, 1, 1, 1, 1, 1, 1, 1, 1, 1, 1, 1, 1, 1, 1, 1, 1, 1, 1, 1, 1, 1, 1, 1, 0, 1, 2, 2, 1, 1, 0, 2] (Yba.f3.body.getD .skip)).wp Yba.prog (Exit.inBlock 13 (Exit.then K Q)) a w1 := by
  obtain ⟨bz, oz, cz, rfl, hld⟩ := hZ.load hk
  generalize hkey : (raw k).1 = key at *
  generalize hadr : (raw k).2 = adr at *
  generalize hprt : adr % 4 + 1 = port at *
  have hport : 1 ≤ port ∧ port ≤ 4 := by omega
  obtain ⟨w2, hr2', m2⟩ := mk_alloc _ al52 w1
  have hs2 : w2.heap.size = w1.heap.size + 1 := m2.2.1
  obtain ⟨w3, hr3, u3, r3⟩ := m2.row.store (ty := 52) (o := 0) [Value.int .u8 (key : Int), .int .u8 (adr : Int)] info52 rfl (Nat.le_refl _)
  have c13 : Chg (fun _ => False) w1 w3 := (Chg.F m2.1).comp (Chg.of_up (X := (· = w1.heap.size)) u3 rfl) fun x hx e => by
    have : x = w1.heap.size := e
    omega
  have r45 : Row w3 w1.heap.size 52 2 (fun i => ([Value.int .u8 (key : Int), .int .u8 (adr : Int)] : List Value).getD i undef) := by
    refine r3.ext fun x hx => ?_
    have hx' : x < 2 := hx
    rw [if_pos (by simp only [List.length_cons, List.length_nil]; omega)]
    rfl
  refine sq ?_
  refine st0 hA (wn rfl) rfl rfl (x_mv rfl) fun a hA => ?_
  refine st0 hA (wn rfl) rfl rfl (x_idx rfl rfl (idxS _ _ _ _ _ _ Yba.underlying22 sz52 hk)) fun a hA => ?_
  refine st0 hA (wn rfl) rfl rfl (x_load rfl hld) fun a hA => ?_
  refine st hA (wn rfl) rfl rfl (x_alloc ⟨w2, hr2', rfl⟩) fun a w2' hA e => ?_
  subst e
  refine st0 hA (wn rfl) rfl rfl (x_as rfl) fun a hA => ?_
  refine stn hA (wn rfl) rfl (x_store rfl rfl ⟨w3, hr3, rfl⟩) fun w3' e => ?_
  subst e
  refine fin ?_
  have mod3 := hmod.keep c13
  have hD3 := hD.chg c13 id
  refine sq ?_
  refine st0 hA (wn rfl) rfl rfl (x_fld rfl (fld52_0 _ _ _)) fun a hA => ?_
  refine st0 hA (wn rfl) rfl rfl (x_load rfl (r45.load1 ag5 (by omega))) fun a hA => ?_
  refine st0 hA (wn rfl) rfl rfl (x_cv rfl (cv5_3 _ (by omega) (by omega))) fun a hA => ?_
  refine st0 hA (wn rfl) rfl rfl (x_as rfl) fun a hA => ?_
  refine fin ?_
  have hpc := port_any (adr : Int) (by omega) (by omega) w3
  rw [portOf_nat, hprt] at hpc
  refine sq ?_
  refine st0 hA (wn rfl) rfl rfl (x_fld rfl (fld52_1 _ _ _)) fun a hA => ?_
  refine st0 hA (wn rfl) rfl rfl (x_load rfl (r45.load1 ag5 (by omega))) fun a hA => ?_
  refine st0 hA (wn rfl) rfl rfl (x_call (cap := []) rfl rfl c5 hpc) fun a hA => ?_
  refine st0 hA (wn rfl) rfl rfl (x_cv rfl (cv24_3 _ (by omega) (by omega))) fun a hA => ?_
  refine st0 hA (wn rfl) rfl rfl (x_as rfl) fun a hA => ?_
  refine fin ?_
  have hA : At a 499 [(2, .slice (some ⟨bz, oz, none⟩) n cz), (3, .bool whole), (6, .bool plc), (7, .int .u8 (p.lo : Int)), (8, .int .u8 (p.wd : Int)), (14, .pointer (some ⟨bOwn, 0, none⟩)), (21, .int .i64 (n : Int)), (22, .int .u16 fr), (23, .int .u16 p.self), (24, .pointer (some ⟨bD, 0, none⟩)), (26, .pointer (some ⟨bL, 0, none⟩)), (27, .pointer (some ⟨bmk, 0, none⟩)), (28, .pointer (some ⟨bmb, 0, none⟩)), (29, .pointer (some ⟨bmu, 0, none⟩)), (36, .slice (some ⟨bR, 0, none⟩) n n), (43, kv), (234, .slice (some ⟨bz, oz, none⟩) n cz), (235, .int .i64 (n : Int)), (236, .int .i64 (k : Int)), (44, .int .i64 (k : Int)), (46, .int .i64 (key : Int)), (47, .int .i64 (port : Int))] := hA.pick [2, 3, 6, 7, 8, 14, 21, 22, 23, 24, 26, 27, 28, 29, 36, 43, 234, 235, 236, 44, 46, 47]
  clear hmod r3 u3 hr3 m2 hr2' hld c13 r45 hD hpc hZ hs2
  generalize hrv : Value.slice (some ⟨bz, oz, none⟩) n cz = rv at *
  -- in the range
  refine cut (fun a' w' => At a' 499 [(2, rv), (3, .bool whole), (6, .bool plc), (7, .int .u8 (p.lo : Int)), (8, .int .u8 (p.wd : Int)), (14, .pointer (some ⟨bOwn, 0, none⟩)), (21, .int .i64 (n : Int)), (22, .int .u16 fr), (23, .int .u16 p.self), (24, .pointer (some ⟨bD, 0, none⟩)), (26, .pointer (some ⟨bL, 0, none⟩)), (27, .pointer (some ⟨bmk, 0, none⟩)), (28, .pointer (some ⟨bmb, 0, none⟩)), (29, .pointer (some ⟨bmu, 0, none⟩)), (36, .slice (some ⟨bR, 0, none⟩) n n), (43, kv), (234, rv), (235, .int .i64 (n : Int)), (236, .int .i64 (k : Int)), (44, .int .i64 (k : Int)), (46, .int .i64 (key : Int)), (47, .int .i64 (port : Int)), (48, .bool (inR p.lo p.wd key))] ∧ w3 = w') ?_ ?_
  · refine rg ?_
    refine st0 hA (wn rfl) rfl rfl (x_mv rfl) fun a hA => ?_
    refine st0 hA (wn rfl) rfl rfl (x_mv rfl) fun a hA => ?_
    refine st0 hA (wn rfl) rfl rfl (x_cv rfl (cv5_3 _ (by omega) (by omega))) fun a hA => ?_
    by_cases hge : p.lo ≤ key
    · refine st0 hA (wn rfl) rfl rfl (x_bin rfl rfl (geq3T _ _ _ _ (by omega))) fun a hA => ?_
      refine st0 hA (wn rfl) rfl rfl (x_mv rfl) fun a hA => ?_
      refine st0 hA (wy rfl rfl rfl) rfl rfl (x_mv rfl) fun a hA => ?_
      refine st0 hA (wy rfl rfl rfl) rfl rfl (x_mv rfl) fun a hA => ?_
      refine st0 hA (wy rfl rfl rfl) rfl rfl (x_cv rfl (cv5_3 _ (by omega) (by omega))) fun a hA => ?_
      refine st0 hA (wy rfl rfl rfl) rfl rfl (x_bin rfl rfl (sub3 _ _ _ _ (by omega) (by omega))) fun a hA => ?_
      refine st0 hA (wy rfl rfl rfl) rfl rfl (x_mv rfl) fun a hA => ?_
      refine st0 hA (wy rfl rfl rfl) rfl rfl (x_cv rfl (cv5_3 _ (by omega) (by omega))) fun a hA => ?_
      refine st0 hA (wy rfl rfl rfl) rfl rfl (x_bin rfl rfl (leq3 _ _ _ _)) fun a hA => ?_
      refine st0 hA (wn rfl) rfl rfl (x_pick rfl rfl) fun a hA => ?_
      refine st0 hA (wn rfl) rfl rfl (x_as rfl) fun a hA => ?_
      refine fin0 (n_th ⟨?_, rfl⟩)
      have : inR p.lo p.wd key = decide ((key : Int) - (p.lo : Int) ≤ (p.wd : Int)) := by
        unfold inR
        by_cases h : key - p.lo ≤ p.wd
        · rw [decide_eq_true ⟨hge, h⟩, decide_eq_true (by omega)]
        · rw [decide_eq_false (fun q => h q.2), decide_eq_false (by omega)]
      rw [this]
      exact hA.pick [2, 3, 6, 7, 8, 14, 21, 22, 23, 24, 26, 27, 28, 29, 36, 43, 234, 235, 236, 44, 46, 47, 48]
    · refine st0 hA (wn rfl) rfl rfl (x_bin rfl rfl (geq3F _ _ _ _ (by omega))) fun a hA => ?_
      refine st0 hA (wn rfl) rfl rfl (x_mv rfl) fun a hA => ?_
      refine sts hA (sh rfl rfl rfl rfl) rfl rfl fun a hA => ?_
      refine sts hA (sh rfl rfl rfl rfl) rfl rfl fun a hA => ?_
      refine sts hA (sh rfl rfl rfl rfl) rfl rfl fun a hA => ?_
      refine sts hA (sh rfl rfl rfl rfl) rfl rfl fun a hA => ?_
      refine sts hA (sh rfl rfl rfl rfl) rfl rfl fun a hA => ?_
      refine sts hA (sh rfl rfl rfl rfl) rfl rfl fun a hA => ?_
      refine sts hA (sh rfl rfl rfl rfl) rfl rfl fun a hA => ?_
      refine st0 hA (wn rfl) rfl rfl (x_pick rfl rfl) fun a hA => ?_
      refine st0 hA (wn rfl) rfl rfl (x_as rfl) fun a hA => ?_
      refine fin0 (n_th ⟨?_, rfl⟩)
      have : inR p.lo p.wd key = false := by unfold inR; rw [decide_eq_false (fun q => hge q.1)]
      rw [this]
      exact hA.pick [2, 3, 6, 7, 8, 14, 21, 22, 23, 24, 26, 27, 28, 29, 36, 43, 234, 235, 236, 44, 46, 47, 48]
  rintro a _ ⟨hA, rfl⟩
  -- placing
  refine cut (fun a' w' => (At a' 499 [(2, rv), (3, .bool whole), (6, .bool plc), (7, .int .u8 (p.lo : Int)), (8, .int .u8 (p.wd : Int)), (14, .pointer (some ⟨bOwn, 0, none⟩)), (21, .int .i64 (n : Int)), (22, .int .u16 fr), (23, .int .u16 p.self), (24, .pointer (some ⟨bD, 0, none⟩)), (26, .pointer (some ⟨bL, 0, none⟩)), (27, .pointer (some ⟨bmk, 0, none⟩)), (28, .pointer (some ⟨bmb, 0, none⟩)), (29, .pointer (some ⟨bmu, 0, none⟩)), (36, .slice (some ⟨bR, 0, none⟩) n n), (43, kv), (234, rv), (235, .int .i64 (n : Int)), (236, .int .i64 (k : Int)), (44, .int .i64 (k : Int)), (46, .int .i64 (key : Int)), (47, .int .i64 (port : Int)), (48, .bool (inR p.lo p.wd key))] ∧ w3 = w') ∧ ¬ (plc = true ∧ inR p.lo p.wd key = true)) ?_ ?_
  · refine sq ?_
    refine st0 hA (wn rfl) rfl rfl (x_mv rfl) fun a hA => ?_
    refine st0 hA (wn rfl) rfl rfl (x_mv rfl) fun a hA => ?_
    cases plc with
    | false =>
      refine sts hA (sh rfl rfl rfl rfl) rfl rfl fun a hA => ?_
      refine st0 hA (wn rfl) rfl rfl (x_pick rfl rfl) fun a hA => ?_
      refine fin ?_
      exact cdfs hA rfl ⟨⟨hA.pick [2, 3, 6, 7, 8, 14, 21, 22, 23, 24, 26, 27, 28, 29, 36, 43, 234, 235, 236, 44, 46, 47, 48], rfl⟩, by simp⟩
    | true =>
      refine st0 hA (wy rfl rfl rfl) rfl rfl (x_mv rfl) fun a hA => ?_
      refine st0 hA (wn rfl) rfl rfl (x_pick rfl rfl) fun a hA => ?_
      refine fin ?_
      cases hin : inR p.lo p.wd key with
      | false =>
        rw [hin] at hA
        exact cdfs hA rfl ⟨⟨hA.pick [2, 3, 6, 7, 8, 14, 21, 22, 23, 24, 26, 27, 28, 29, 36, 43, 234, 235, 236, 44, 46, 47, 48], rfl⟩, by simp⟩
      | true =>
        rw [hin] at hA
        refine cdte hA rfl (xin (n_th (hdone _ _ kv (hA.pick [2, 3, 6, 7, 8, 14, 21, 22, 23, 24, 26, 27, 28, 29, 36, 43, 234, 235, 236]) ?_)))
        have : stepR (ctxOf p d fr) s k key port = s := by unfold stepR ctxOf; rw [if_pos ⟨hplc.symm, hin⟩]
        rw [this]
        exact mod3
  rintro a _ ⟨⟨hA, rfl⟩, hnp⟩
  have hnp' : ¬ ((ctxOf p d fr).placing = true ∧ inR (ctxOf p d fr).lo (ctxOf p d fr).wd key = true) := fun h => hnp ⟨hplc.trans h.1, h.2⟩
  -- dead
  refine wp_seq ?_
  refine sq ?_
  refine st0 hA (wn rfl) rfl rfl (x_mv rfl) fun a hA => ?_
  refine st0 hA (wn rfl) rfl rfl (x_idx rfl rfl (idxA _ _ _ _ Yba.underlying26 sz4 (by omega))) fun a hA => ?_
  refine st0 hA (wn rfl) rfl rfl (x_load rfl (hD3.load1 ag4 (by omega))) fun a hA => ?_
  refine fin ?_
  have ed : d (0 + port * 1) = d port := by rw [Nat.zero_add, Nat.mul_one]
  rw [ed] at hA
  cases hdd : d port with
  | true =>
    rw [hdd] at hA
    refine cdt hA rfl ?_
    refine cut (fun a' w' => At a' 499 [(2, rv), (3, .bool whole), (6, .bool plc), (7, .int .u8 (p.lo : Int)), (8, .int .u8 (p.wd : Int)), (14, .pointer (some ⟨bOwn, 0, none⟩)), (21, .int .i64 (n : Int)), (22, .int .u16 fr), (23, .int .u16 p.self), (24, .pointer (some ⟨bD, 0, none⟩)), (26, .pointer (some ⟨bL, 0, none⟩)), (27, .pointer (some ⟨bmk, 0, none⟩)), (28, .pointer (some ⟨bmb, 0, none⟩)), (29, .pointer (some ⟨bmu, 0, none⟩)), (36, .slice (some ⟨bR, 0, none⟩) n n), (43, kv), (234, rv), (235, .int .i64 (n : Int)), (236, .int .i64 (k : Int))] ∧ Mdl w w' bmk bmb bmu (stepR (ctxOf p d fr) s k key port) kv) ?_ ?_
    · refine sq ?_
      refine st0 hA (wn rfl) rfl rfl (x_mv rfl) fun a hA => ?_
      refine fin ?_
      cases hin : inR p.lo p.wd key with
      | true =>
        rw [hin] at hA
        refine cdt hA rfl ?_
        obtain ⟨w4, hr4, u4, e4⟩ := mod3.eu.put (k := key) (by omega) (port : Int)
        refine rg ?_
        refine st0 hA (wn rfl) rfl rfl (x_mv rfl) fun a hA => ?_
        refine st0 hA (wn rfl) rfl rfl (x_mv rfl) fun a hA => ?_
        refine st0 hA (wn rfl) rfl rfl (x_idx rfl rfl (idxA _ _ _ _ Yba.underlying50 sz3 (by omega))) fun a hA => ?_
        refine stn hA (wn rfl) rfl (x_store rfl rfl ⟨w4, hr4, rfl⟩) fun w4' e => ?_
        subst e
        refine fin0 (n_th ⟨hA.pick [2, 3, 6, 7, 8, 14, 21, 22, 23, 24, 26, 27, 28, 29, 36, 43, 234, 235, 236], ?_⟩)
        have e : stepR (ctxOf p d fr) s k key port = { s with u := putP s.u key port } := by
          unfold stepR
          rw [if_neg hnp', if_pos (show (ctxOf p d fr).dead port = true from hdd), if_pos (show inR (ctxOf p d fr).lo (ctxOf p d fr).wd key = true from hin)]
        rw [e]
        exact ⟨mod3.chg.comp (Chg.of_up (X := (· = bmu)) u4 rfl) fun x _ e => .inr (.inr e), Row.up mod3.ek u4 h13, Row.up mod3.eb u4 h23, e4, owns_keep mod3.kept (Chg.of_up (X := (· = bmu)) u4 rfl) fun b hb e => by subst e; exact row_ne_own mod3.kept mod3.eu (by decide) hb.symm⟩
      | false =>
        rw [hin] at hA
        refine cdfs hA rfl ⟨hA.pick [2, 3, 6, 7, 8, 14, 21, 22, 23, 24, 26, 27, 28, 29, 36, 43, 234, 235, 236], ?_⟩
        have e : stepR (ctxOf p d fr) s k key port = s := by
          unfold stepR
          rw [if_neg hnp', if_pos (show (ctxOf p d fr).dead port = true from hdd), if_neg (show ¬ inR (ctxOf p d fr).lo (ctxOf p d fr).wd key = true by rw [show inR (ctxOf p d fr).lo (ctxOf p d fr).wd key = inR p.lo p.wd key from rfl, hin]; simp)]
        rw [e]
        exact mod3
    rintro a w5 ⟨hA, hm5⟩
    exact wp_exit (x_th (xin (n_th (hdone _ _ kv hA hm5))))
  | false =>
    rw [hdd] at hA
    refine cdfs hA rfl ?_
    have hnd' : ¬ (ctxOf p d fr).dead port = true := by rw [show (ctxOf p d fr).dead port = d port from rfl, hdd]; simp
    obtain ⟨q5, c5, rfl⟩ := owns_slice mod3.kept
    obtain ⟨w6, hr6, m6⟩ := mk_bs60 (k : Int) w3
    have mod6 := mod3.keep (Chg.F m6.1)
    have hsz6 : w.heap.size ≤ w6.heap.size := mod6.chg.size
    obtain ⟨kv', w7, hr7, hown7, c7⟩ := app1 (t := 60) (e := 3) Yba.underlying60 ti3 rfl (by omega) mod6.kept m6 rfl rfl (by omega) (by omega) hsz6 60 #[false, false]
    have hkc : intsC s.kept ++ [Value.int .i64 (k : Int)] = intsC (s.kept ++ [k]) := by unfold intsC; rw [List.map_append]; rfl
    rw [hkc] at hown7
    have mod7 : Mdl w w7 bmk bmb bmu { s with kept := s.kept ++ [k] } kv' := by
      refine ⟨mod6.chg.comp c7 fun x hx e => ?_, Row.chg mod6.ek c7 (row_ne_own mod6.kept mod6.ek (by decide)), Row.chg mod6.eb c7 (row_ne_own mod6.kept mod6.eb (by decide)), Row.chg mod6.eu c7 (row_ne_own mod6.kept mod6.eu (by decide)), ?_⟩
      · have := (owns_lt mod6.kept e.symm).1
        omega
      · rw [List.length_append]
        exact hown7
    refine sq ?_
    refine st0 hA (wn rfl) rfl rfl (x_mv rfl) fun a hA => ?_
    refine st0 hA (wn rfl) rfl rfl (x_mv rfl) fun a hA => ?_
    refine st hA (wn rfl) rfl rfl (x_bslice rfl ⟨w6, hr6, rfl⟩) fun a w6' hA e => ?_
    subst e
    refine st hA (wn rfl) rfl rfl (x_blt rfl ⟨w7, hr7, rfl⟩) fun a w7' hA e => ?_
    subst e
    refine st0 hA (wn rfl) rfl rfl (x_as rfl) fun a hA => ?_
    refine fin ?_
    refine sq ?_
    refine st0 hA (wn rfl) rfl rfl (x_mv rfl) fun a hA => ?_
    refine st0 hA (wn rfl) rfl rfl (x_idx rfl rfl (idxA _ _ _ _ Yba.underlying50 sz3 (by omega))) fun a hA => ?_
    refine st0 hA (wn rfl) rfl rfl (x_load rfl (mod7.ek.get (by omega))) fun a hA => ?_
    refine st0 hA (wn rfl) rfl rfl (x_bin rfl rfl (geq3 _ _ _ _)) fun a hA => ?_
    refine st0 hA (wn rfl) rfl rfl (x_as rfl) fun a hA => ?_
    refine fin ?_
    have hhad : decide (enc s.f key ≥ 0) = (s.f key).isSome := by
      have := enc_ge hgf key
      cases hh : (s.f key).isSome with
      | true => rw [decide_eq_true (this.2 hh)]
      | false => rw [decide_eq_false (fun q => by rw [this.1 q] at hh; cases hh)]
    have hA : At a 499 [(2, rv), (3, .bool whole), (6, .bool plc), (7, .int .u8 (p.lo : Int)), (8, .int .u8 (p.wd : Int)), (14, .pointer (some ⟨bOwn, 0, none⟩)), (21, .int .i64 (n : Int)), (22, .int .u16 fr), (23, .int .u16 p.self), (24, .pointer (some ⟨bD, 0, none⟩)), (26, .pointer (some ⟨bL, 0, none⟩)), (27, .pointer (some ⟨bmk, 0, none⟩)), (28, .pointer (some ⟨bmb, 0, none⟩)), (29, .pointer (some ⟨bmu, 0, none⟩)), (36, .slice (some ⟨bR, 0, none⟩) n n), (43, kv'), (234, rv), (235, .int .i64 (n : Int)), (236, .int .i64 (k : Int)), (46, .int .i64 (key : Int)), (47, .int .i64 (port : Int)), (49, .bool (decide (enc s.f key ≥ 0)))] := hA.pick [2, 3, 6, 7, 8, 14, 21, 22, 23, 24, 26, 27, 28, 29, 36, 43, 234, 235, 236, 46, 47, 49]
    rw [hhad] at hA
    have hend : ∀ a' w', At a' 499 [(2, rv), (3, .bool whole), (6, .bool plc), (7, .int .u8 (p.lo : Int)), (8, .int .u8 (p.wd : Int)), (14, .pointer (some ⟨bOwn, 0, none⟩)), (21, .int .i64 (n : Int)), (22, .int .u16 fr), (23, .int .u16 p.self), (24, .pointer (some ⟨bD, 0, none⟩)), (26, .pointer (some ⟨bL, 0, none⟩)), (27, .pointer (some ⟨bmk, 0, none⟩)), (28, .pointer (some ⟨bmb, 0, none⟩)), (29, .pointer (some ⟨bmu, 0, none⟩)), (36, .slice (some ⟨bR, 0, none⟩) n n), (43, kv'), (234, rv), (235, .int .i64 (n : Int)), (236, .int .i64 (k : Int))] → Mdl w w' bmk bmb bmu (stepR (ctxOf p d fr) s k key port) kv' → Exit.inBlock 13 (Exit.then K Q) .normal a' w' := fun a' w' h1 h2 => n_in (n_th (hdone a' w' kv' h1 h2))
    have hst0 : stepR (ctxOf p d fr) s k key port = (if s.f key = none ∧ ((port : Int) ≠ p.self ∨ fr = p.self) then { s with kept := s.kept ++ [k], f := putP s.f key port, g := putP s.g key fr } else if s.f key = some (port : Int) ∧ fr = port then { s with kept := s.kept ++ [k], g := putP s.g key fr } else { s with kept := s.kept ++ [k] }) := by
      unfold stepR
      rw [if_neg hnp', if_neg hnd']
      rfl
    have hend3 : ∀ a', At a' 499 [(2, rv), (3, .bool whole), (6, .bool plc), (7, .int .u8 (p.lo : Int)), (8, .int .u8 (p.wd : Int)), (14, .pointer (some ⟨bOwn, 0, none⟩)), (21, .int .i64 (n : Int)), (22, .int .u16 fr), (23, .int .u16 p.self), (24, .pointer (some ⟨bD, 0, none⟩)), (26, .pointer (some ⟨bL, 0, none⟩)), (27, .pointer (some ⟨bmk, 0, none⟩)), (28, .pointer (some ⟨bmb, 0, none⟩)), (29, .pointer (some ⟨bmu, 0, none⟩)), (36, .slice (some ⟨bR, 0, none⟩) n n), (43, kv'), (234, rv), (235, .int .i64 (n : Int)), (236, .int .i64 (k : Int))] → ¬ (s.f key = none ∧ ((port : Int) ≠ p.self ∨ fr = p.self)) → ¬ (s.f key = some (port : Int) ∧ fr = port) → Exit.inBlock 13 (Exit.then K Q) .normal a' w7 := fun a' h1 h3 h4 => hend a' w7 h1 (by rw [hst0, if_neg h3, if_neg h4]; exact mod7)
    refine cut (fun a' w' => At a' 499 [(2, rv), (3, .bool whole), (6, .bool plc), (7, .int .u8 (p.lo : Int)), (8, .int .u8 (p.wd : Int)), (14, .pointer (some ⟨bOwn, 0, none⟩)), (21, .int .i64 (n : Int)), (22, .int .u16 fr), (23, .int .u16 p.self), (24, .pointer (some ⟨bD, 0, none⟩)), (26, .pointer (some ⟨bL, 0, none⟩)), (27, .pointer (some ⟨bmk, 0, none⟩)), (28, .pointer (some ⟨bmb, 0, none⟩)), (29, .pointer (some ⟨bmu, 0, none⟩)), (36, .slice (some ⟨bR, 0, none⟩) n n), (43, kv'), (234, rv), (235, .int .i64 (n : Int)), (236, .int .i64 (k : Int)), (46, .int .i64 (key : Int)), (47, .int .i64 (port : Int)), (49, .bool (s.f key).isSome), (292, .bool (decide (s.f key = none ∧ ((port : Int) ≠ p.self ∨ fr = p.self))))] ∧ w7 = w') ?_ ?_
    · refine rg ?_
      cases hf : s.f key with
      | some q =>
        rw [hf] at hA
        have : decide (some q = none ∧ ((port : Int) ≠ p.self ∨ fr = p.self)) = false := by simp
        rw [this]
        refine st0 hA (wn rfl) rfl rfl (x_mv rfl) fun a hA => ?_
        refine st0 hA (wn rfl) rfl rfl (x_not rfl) fun a hA => ?_
        refine st0 hA (wn rfl) rfl rfl (x_mv rfl) fun a hA => ?_
        refine sts hA (sh rfl rfl rfl rfl) rfl rfl fun a hA => ?_
        refine sts hA (sh rfl rfl rfl rfl) rfl rfl fun a hA => ?_
        refine sts hA (sh rfl rfl rfl rfl) rfl rfl fun a hA => ?_
        refine sts hA (sh rfl rfl rfl rfl) rfl rfl fun a hA => ?_
        refine sts hA (sh rfl rfl rfl rfl) rfl rfl fun a hA => ?_
        refine sts hA (shn rfl rfl rfl) rfl rfl fun a hA => ?_
        refine sts hA (shn rfl rfl rfl) rfl rfl fun a hA => ?_
        refine sts hA (shn rfl rfl rfl) rfl rfl fun a hA => ?_
        refine sts hA (sh rfl rfl rfl rfl) rfl rfl fun a hA => ?_
        refine st0 hA (wn rfl) rfl rfl (x_pick rfl rfl) fun a hA => ?_
        exact fin0 (n_th ⟨hA.pick [2, 3, 6, 7, 8, 14, 21, 22, 23, 24, 26, 27, 28, 29, 36, 43, 234, 235, 236, 46, 47, 49, 292], rfl⟩)
      | none =>
        rw [hf] at hA
        refine st0 hA (wn rfl) rfl rfl (x_mv rfl) fun a hA => ?_
        refine st0 hA (wn rfl) rfl rfl (x_not rfl) fun a hA => ?_
        refine st0 hA (wn rfl) rfl rfl (x_mv rfl) fun a hA => ?_
        refine st0 hA (wy rfl rfl rfl) rfl rfl (x_mv rfl) fun a hA => ?_
        refine st0 hA (wy rfl rfl rfl) rfl rfl (x_mv rfl) fun a hA => ?_
        refine st0 hA (wy rfl rfl rfl) rfl rfl (x_cv rfl (cv24_3 _ (by omega) (by omega))) fun a hA => ?_
        by_cases hps : (port : Int) ≠ p.self
        · have : decide ((none : Option Int) = none ∧ ((port : Int) ≠ p.self ∨ fr = p.self)) = true := decide_eq_true ⟨rfl, .inl hps⟩
          rw [this]
          refine st0 hA (wy rfl rfl rfl) rfl rfl (x_bin rfl rfl (neq3T _ _ _ _ hps)) fun a hA => ?_
          refine st0 hA (wy rfl rfl rfl) rfl rfl (x_mv rfl) fun a hA => ?_
          refine sts hA (sh rfl rfl rfl rfl) rfl rfl fun a hA => ?_
          refine sts hA (sh rfl rfl rfl rfl) rfl rfl fun a hA => ?_
          refine sts hA (sh rfl rfl rfl rfl) rfl rfl fun a hA => ?_
          refine st0 hA (wy rfl rfl rfl) rfl rfl (x_pick rfl rfl) fun a hA => ?_
          refine st0 hA (wn rfl) rfl rfl (x_pick rfl rfl) fun a hA => ?_
          exact fin0 (n_th ⟨hA.pick [2, 3, 6, 7, 8, 14, 21, 22, 23, 24, 26, 27, 28, 29, 36, 43, 234, 235, 236, 46, 47, 49, 292], rfl⟩)
        · refine st0 hA (wy rfl rfl rfl) rfl rfl (x_bin rfl rfl (neq3F _ _ _ _ hps)) fun a hA => ?_
          refine st0 hA (wy rfl rfl rfl) rfl rfl (x_mv rfl) fun a hA => ?_
          refine st0 hA (wy rfl rfl rfl) rfl rfl (x_mv rfl) fun a hA => ?_
          refine st0 hA (wy rfl rfl rfl) rfl rfl (x_mv rfl) fun a hA => ?_
          by_cases hfs : fr = p.self
          · have : decide ((none : Option Int) = none ∧ ((port : Int) ≠ p.self ∨ fr = p.self)) = true := decide_eq_true ⟨rfl, .inr hfs⟩
            rw [this]
            refine st0 hA (wy rfl rfl rfl) rfl rfl (x_bin rfl rfl (eql24T _ _ _ _ hfs)) fun a hA => ?_
            refine st0 hA (wy rfl rfl rfl) rfl rfl (x_pick rfl rfl) fun a hA => ?_
            refine st0 hA (wn rfl) rfl rfl (x_pick rfl rfl) fun a hA => ?_
            exact fin0 (n_th ⟨hA.pick [2, 3, 6, 7, 8, 14, 21, 22, 23, 24, 26, 27, 28, 29, 36, 43, 234, 235, 236, 46, 47, 49, 292], rfl⟩)
          · have : decide ((none : Option Int) = none ∧ ((port : Int) ≠ p.self ∨ fr = p.self)) = false := decide_eq_false (fun h => h.2.elim hps hfs)
            rw [this]
            refine st0 hA (wy rfl rfl rfl) rfl rfl (x_bin rfl rfl (eql24F _ _ _ _ hfs)) fun a hA => ?_
            refine st0 hA (wy rfl rfl rfl) rfl rfl (x_pick rfl rfl) fun a hA => ?_
            refine st0 hA (wn rfl) rfl rfl (x_pick rfl rfl) fun a hA => ?_
            exact fin0 (n_th ⟨hA.pick [2, 3, 6, 7, 8, 14, 21, 22, 23, 24, 26, 27, 28, 29, 36, 43, 234, 235, 236, 46, 47, 49, 292], rfl⟩)
    rintro a _ ⟨hA, rfl⟩
    by_cases hcond : s.f key = none ∧ ((port : Int) ≠ p.self ∨ fr = p.self)
    · rw [decide_eq_true hcond] at hA
      refine cdt hA rfl ?_
      obtain ⟨w8, hr8, u8, e8⟩ := mod7.ek.put (k := key) (by omega) (port : Int)
      have hmb8 : Enc w8 bmb s.g := Row.up mod7.eb u8 h12.symm
      obtain ⟨w9, hr9, u9, e9⟩ := hmb8.put (k := key) (by omega) fr
      refine sq ?_
      refine st0 hA (wn rfl) rfl rfl (x_mv rfl) fun a hA => ?_
      refine st0 hA (wn rfl) rfl rfl (x_mv rfl) fun a hA => ?_
      refine st0 hA (wn rfl) rfl rfl (x_idx rfl rfl (idxA _ _ _ _ Yba.underlying50 sz3 (by omega))) fun a hA => ?_
      refine stn hA (wn rfl) rfl (x_store rfl rfl ⟨w8, hr8, rfl⟩) fun w8' e => ?_
      subst e
      refine fin ?_
      refine rg ?_
      refine st0 hA (wn rfl) rfl rfl (x_mv rfl) fun a hA => ?_
      refine st0 hA (wn rfl) rfl rfl (x_mv rfl) fun a hA => ?_
      refine st0 hA (wn rfl) rfl rfl (x_cv rfl (cv24_3 _ (by omega) (by omega))) fun a hA => ?_
      refine st0 hA (wn rfl) rfl rfl (x_idx rfl rfl (idxA _ _ _ _ Yba.underlying50 sz3 (by omega))) fun a hA => ?_
      refine stn hA (wn rfl) rfl (x_store rfl rfl ⟨w9, hr9, rfl⟩) fun w9' e => ?_
      subst e
      refine fin0 (hend _ _ (hA.pick [2, 3, 6, 7, 8, 14, 21, 22, 23, 24, 26, 27, 28, 29, 36, 43, 234, 235, 236]) ?_)
      rw [hst0, if_pos hcond]
      refine ⟨(mod7.chg.comp (Chg.of_up (X := (· = bmk)) u8 rfl) fun x _ e => .inl e).comp (Chg.of_up (X := (· = bmb)) u9 rfl) fun x _ e => .inr (.inl e), Row.up e8 u9 h12, e9, Row.up (Row.up mod7.eu u8 h13.symm) u9 h23.symm, ?_⟩
      have k8 := owns_keep mod7.kept (Chg.of_up (X := (· = bmk)) u8 rfl) fun b hb e => by subst e; exact row_ne_own mod7.kept mod7.ek (by decide) hb.symm
      exact owns_keep k8 (Chg.of_up (X := (· = bmb)) u9 rfl) fun b hb e => by subst e; exact row_ne_own k8 hmb8 (by decide) hb.symm
    · rw [decide_eq_false hcond] at hA
      refine cdf hA rfl ?_
      refine sq ?_
      refine st0 hA (wn rfl) rfl rfl (x_mv rfl) fun a hA => ?_
      refine st0 hA (wn rfl) rfl rfl (x_mv rfl) fun a hA => ?_
      cases hf : s.f key with
      | none =>
        rw [hf] at hA
        refine sts hA (sh rfl rfl rfl rfl) rfl rfl fun a hA => ?_
        refine sts hA (sh rfl rfl rfl rfl) rfl rfl fun a hA => ?_
        refine sts hA (sh rfl rfl rfl rfl) rfl rfl fun a hA => ?_
        refine sts hA (sh rfl rfl rfl rfl) rfl rfl fun a hA => ?_
        refine sts hA (sh rfl rfl rfl rfl) rfl rfl fun a hA => ?_
        refine st0 hA (wn rfl) rfl rfl (x_pick rfl rfl) fun a hA => ?_
        refine st0 hA (wn rfl) rfl rfl (x_mv rfl) fun a hA => ?_
        refine sts hA (sh rfl rfl rfl rfl) rfl rfl fun a hA => ?_
        refine sts hA (sh rfl rfl rfl rfl) rfl rfl fun a hA => ?_
        refine sts hA (sh rfl rfl rfl rfl) rfl rfl fun a hA => ?_
        refine sts hA (sh rfl rfl rfl rfl) rfl rfl fun a hA => ?_
        refine st0 hA (wn rfl) rfl rfl (x_pick rfl rfl) fun a hA => ?_
        refine fin ?_
        exact cdfz hA rfl (hend3 _ (hA.pick [2, 3, 6, 7, 8, 14, 21, 22, 23, 24, 26, 27, 28, 29, 36, 43, 234, 235, 236]) hcond (by rw [hf]; simp))
      | some q =>
        rw [hf] at hA
        have hen : enc s.f key = q := by unfold enc; rw [hf]; rfl
        refine st0 hA (wy rfl rfl rfl) rfl rfl (x_mv rfl) fun a hA => ?_
        refine st0 hA (wy rfl rfl rfl) rfl rfl (x_idx rfl rfl (idxA _ _ _ _ Yba.underlying50 sz3 (by omega))) fun a hA => ?_
        refine st0 hA (wy rfl rfl rfl) rfl rfl (x_load rfl (mod7.ek.get (by omega))) fun a hA => ?_
        refine st0 hA (wy rfl rfl rfl) rfl rfl (x_mv rfl) fun a hA => ?_
        by_cases hq : q = port
        · refine st0 hA (wy rfl rfl rfl) rfl rfl (x_bin rfl rfl (eql3T _ _ _ _ (by rw [show enc ({ s with kept := s.kept ++ [k] } : TS).f key = enc s.f key from rfl, hen]; exact hq))) fun a hA => ?_
          refine st0 hA (wn rfl) rfl rfl (x_pick rfl rfl) fun a hA => ?_
          refine st0 hA (wn rfl) rfl rfl (x_mv rfl) fun a hA => ?_
          refine st0 hA (wy rfl rfl rfl) rfl rfl (x_mv rfl) fun a hA => ?_
          refine st0 hA (wy rfl rfl rfl) rfl rfl (x_cv rfl (cv24_3 _ (by omega) (by omega))) fun a hA => ?_
          refine st0 hA (wy rfl rfl rfl) rfl rfl (x_mv rfl) fun a hA => ?_
          by_cases hfp : fr = port
          · refine st0 hA (wy rfl rfl rfl) rfl rfl (x_bin rfl rfl (eql3T _ _ _ _ hfp)) fun a hA => ?_
            refine st0 hA (wn rfl) rfl rfl (x_pick rfl rfl) fun a hA => ?_
            refine fin ?_
            refine cdt hA rfl ?_
            obtain ⟨w8, hr8, u8, e8⟩ := mod7.eb.put (k := key) (by omega) fr
            refine rg ?_
            refine st0 hA (wn rfl) rfl rfl (x_mv rfl) fun a hA => ?_
            refine st0 hA (wn rfl) rfl rfl (x_mv rfl) fun a hA => ?_
            refine st0 hA (wn rfl) rfl rfl (x_cv rfl (cv24_3 _ (by omega) (by omega))) fun a hA => ?_
            refine st0 hA (wn rfl) rfl rfl (x_idx rfl rfl (idxA _ _ _ _ Yba.underlying50 sz3 (by omega))) fun a hA => ?_
            refine stn hA (wn rfl) rfl (x_store rfl rfl ⟨w8, hr8, rfl⟩) fun w8' e => ?_
            subst e
            refine fin0 (hend _ _ (hA.pick [2, 3, 6, 7, 8, 14, 21, 22, 23, 24, 26, 27, 28, 29, 36, 43, 234, 235, 236]) ?_)
            rw [hst0, if_neg hcond, if_pos ⟨by rw [hf, hq], hfp⟩]
            exact ⟨mod7.chg.comp (Chg.of_up (X := (· = bmb)) u8 rfl) fun x _ e => .inr (.inl e), Row.up mod7.ek u8 h12, e8, Row.up mod7.eu u8 h23.symm, owns_keep mod7.kept (Chg.of_up (X := (· = bmb)) u8 rfl) fun b hb e => by subst e; exact row_ne_own mod7.kept mod7.eb (by decide) hb.symm⟩
          · refine st0 hA (wy rfl rfl rfl) rfl rfl (x_bin rfl rfl (eql3F _ _ _ _ hfp)) fun a hA => ?_
            refine st0 hA (wn rfl) rfl rfl (x_pick rfl rfl) fun a hA => ?_
            refine fin ?_
            exact cdfz hA rfl (hend3 _ (hA.pick [2, 3, 6, 7, 8, 14, 21, 22, 23, 24, 26, 27, 28, 29, 36, 43, 234, 235, 236]) hcond fun h => hfp h.2)
        · refine st0 hA (wy rfl rfl rfl) rfl rfl (x_bin rfl rfl (eql3F _ _ _ _ (by rw [show enc ({ s with kept := s.kept ++ [k] } : TS).f key = enc s.f key from rfl, hen]; exact hq))) fun a hA => ?_
          refine st0 hA (wn rfl) rfl rfl (x_pick rfl rfl) fun a hA => ?_
          refine st0 hA (wn rfl) rfl rfl (x_mv rfl) fun a hA => ?_
          refine sts hA (sh rfl rfl rfl rfl) rfl rfl fun a hA => ?_
          refine sts hA (sh rfl rfl rfl rfl) rfl rfl fun a hA => ?_
          refine sts hA (sh rfl rfl rfl rfl) rfl rfl fun a hA => ?_
          refine sts hA (sh rfl rfl rfl rfl) rfl rfl fun a hA => ?_
          refine st0 hA (wn rfl) rfl rfl (x_pick rfl rfl) fun a hA => ?_
          refine fin ?_
          exact cdfz hA rfl (hend3 _ (hA.pick [2, 3, 6, 7, 8, 14, 21, 22, 23, 24, 26, 27, 28, 29, 36, 43, 234, 235, 236]) hcond fun h => hq (by have := h.1; rw [hf] at this; simpa using this))
end Go.Proofs.Ybulkcrtu
