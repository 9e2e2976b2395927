import Derived.Test.YbulkcrtuTA
namespace Go.Proofs.Ybulkcrtu
open Go.RowKit Go.ChangeMaps Go.MapKept

/-- The code behind the first k members of a row. -/
def dropS : Nat → Code → Code
  | 0, c => c
  | k + 1, .seq _ b => dropS k b
  | _ + 1, c => c
/-- A member, cut off from what follows it. -/
theorem cut {x y : Code} {Q : Exit → Act → World → Prop} {a : Act} {w : World} (I : Act → World → Prop) (h1 : x.wp Yba.prog (Exit.then I Q) a w) (h2 : ∀ a w, I a w → y.wp Yba.prog Q a w) : (Code.seq x y).wp Yba.prog Q a w :=
  wp_seq (Code.wp_mono (fun e a w q => by cases e <;> first | exact h2 _ _ q | exact q) h1)
/-- append of one element that lies in block b. -/
theorem app1' {t e size bytes : Nat} {z : Value} (ht : Yba.prog.underlying t = some (.slice e)) (hti : (Yba.prog.info? e).map (fun i => (i.zero, i.size, i.bytes)) = some (some z, size, bytes)) (hz : z.cells.size = size) (hs : 0 < size)
    {w : World} {base n b t' : Nat} {v : Value} {xs news : List Value} (hown : w.ownsRow base e size v n xs) (hM : Row w b t' news.length (fun i => news.getD i undef)) (hl : news.length = size) (h1 : news.all (·.oneCell') = true) (hn : n + 1 ≤ 100000) (hb : bytes ≤ 1000) (hbase : base ≤ w.heap.size) (ty : TypeId) (cs : Array Bool) :
    ∃ v' w', Blt .append #[t, t] ty cs #[v, .slice (some ⟨b, 0, none⟩) 1 1] w v' w' ∧ w'.ownsRow base e size v' (n + 1) (xs ++ news) ∧ Chg (fun b => some b = v.ownBlock) w w' := by
  obtain ⟨i, hi, h2, h3, h4⟩ := tinfo hti
  have hmul : (n + 1) * bytes ≤ 100000 * 1000 := Nat.mul_le_mul hn hb
  obtain ⟨v', w', hr, ho, hg, _⟩ := run_append_own (P := Yba.prog) w base t ty e i z size bytes ht hi h2 h3 h4 hz hs v n xs hown ⟨b, 0, none⟩ 1 1 news (by omega)
    (fun j u hu => by rw [Addr.add_mid, Nat.zero_add, hM.cell (lt_cells hu)]; exact congrArg some (getD_cells hu)) (fun u hu => (List.all_eq_true.1 h1) u hu) (by unfold maxLen; omega) (by omega) hbase
  refine ⟨v', w', ?_, ho, grown_chg hg⟩
  unfold Blt
  simp only [builtin, Sem.run_bind, hr, Result.andThen_ok, Sem.run_pure]
/-- What take reads all along. -/
structure Env (w : World) (bL bF bw bn bR n : Nat) (p : LkP) (fr : Int) (whole : Bool) (rs : Nat → Nat × Nat) : Prop where
  lk : Lk w bL p
  from' : Row w bF 37 4 (fun i => (apC fr).getD i undef)
  wraps : Row w bw 4 1 (fun _ => .bool whole)
  len : Row w bn 3 1 (fun _ => .int .i64 (n : Int))
  routes : Routes w bR n rs
theorem Env.keep {w w' : World} {bL bF bw bn bR n : Nat} {p : LkP} {fr : Int} {whole : Bool} {rs : Nat → Nat × Nat} (h : Env w bL bF bw bn bR n p fr whole rs) {X : Nat → Prop} (hc : Chg X w w') (hx : ∀ b t m g, Row w b t m g → ¬ X b) : Env w' bL bF bw bn bR n p fr whole rs :=
  ⟨Row.chg h.lk hc (hx _ _ _ _ h.lk), h.from'.chg hc (hx _ _ _ _ h.from'), h.wraps.chg hc (hx _ _ _ _ h.wraps), h.len.chg hc (hx _ _ _ _ h.len), Row.chg h.routes hc (hx _ _ _ _ h.routes)⟩
theorem ints_get {w : World} {p : Option Addr} {c : Nat} {kept : List Nat} (h : Ints w (.slice p kept.length c) (kept.map fun (x : Nat) => (x : Int))) {k : Nat} (hk : k < kept.length) : ∃ b o, p = some ⟨b, o, none⟩ ∧ w.cell? ⟨b, o + k, none⟩ = some (.int .i64 ((kept.getD k 0 : Nat) : Int)) := by
  obtain ⟨p', c', he, hcl⟩ := h
  simp only [Value.slice.injEq] at he
  obtain ⟨rfl, _, rfl⟩ := he
  refine hcl k _ ?_
  rw [List.getElem?_map, List.getD_eq_getElem?_getD, List.getElem?_eq_getElem hk]
  rfl
set_option maxRecDepth 100000 in
set_option maxHeartbeats 1000000 in
/-- The last loop: the pairs. -/
theorem take4 (bL bF bw bn bR bV n nl : Nat) (p : LkP) (fr : Int) (whole : Bool) (rs : Nat → Nat × Nat) (v : Nat → Bool) (kept : List Nat) (kp : Option Addr) (kc : Nat) (R : Ending → World → Prop)
    (hn : n ≤ 300) (hnl : nl ≤ 1000) (hrs : ∀ i, i < n → (rs i).1 ≤ 255) (hkn : ∀ i ∈ kept, i < n) (hkl : kept.length ≤ n)
    (a : Act) (w : World) (hA : At a 255 [(0, .pointer (some ⟨bL, 0, none⟩)), (5, .pointer (some ⟨bF, 0, none⟩)), (8, .slice (some ⟨bR, 0, none⟩) n n), (9, .pointer (some ⟨bw, 0, none⟩)), (10, .pointer (some ⟨bn, 0, none⟩)), (15, .slice (some ⟨bV, 0, none⟩) n n), (17, .slice kp kept.length kc)])
    (hE : Env w bL bF bw bn bR n p fr whole rs) (hV : Row w bV 4 n (fun i => .bool (v i))) (hK : Ints w (.slice kp kept.length kc) (kept.map fun (x : Nat) => (x : Int))) (hM : LinkM w p.linked nl 0 [] fr)
    (hR : ∀ w', Chg (· = p.linked) w w' → LinkM w' p.linked (nl + kept.length) 0 (runL v n whole kept (fun i => (rs i).1) kept.length) fr → R (.returned (.tuple #[])) w') :
    (dropS 10 (Yba.f9.body.getD .skip)).wp Yba.prog (bodyPost Yba.prog Yba.f9 R) a w := by
  refine sq ?_
  refine st0 hA (wn rfl) rfl rfl (x_mv rfl) fun a hA => ?_
  refine st0 hA (wn rfl) rfl rfl (x_len rfl Yba.underlying60) fun a hA => ?_
  refine st0 hA (wn rfl) rfl rfl (x_mv rfl) fun a hA => ?_
  refine fin ?_
  have hmap := hM.map
  have hrowx : ∀ b t m g, Row w b t m g → ¬ (b = p.linked) := fun b t m g h => row_ne_map h hmap
  refine lpb (fun m a w' => ∃ k : Nat, k + m = kept.length ∧ At a 255 [(0, .pointer (some ⟨bL, 0, none⟩)), (5, .pointer (some ⟨bF, 0, none⟩)), (8, .slice (some ⟨bR, 0, none⟩) n n), (9, .pointer (some ⟨bw, 0, none⟩)), (10, .pointer (some ⟨bn, 0, none⟩)), (15, .slice (some ⟨bV, 0, none⟩) n n), (17, .slice kp kept.length kc), (174, .slice kp kept.length kc), (175, .int .i64 kept.length), (176, .int .i64 k)] ∧
    Chg (· = p.linked) w w' ∧ LinkM w' p.linked (nl + k) 0 (runL v n whole kept (fun i => (rs i).1) k) fr) kept.length ⟨0, by omega, hA.pick [0, 5, 8, 9, 10, 15, 17, 174, 175, 176], Chg.refl _ _, hM⟩ ?_
  rintro m a w1 ⟨k, hk, hA, hC, hM1⟩
  have hE1 : Env w1 bL bF bw bn bR n p fr whole rs := hE.keep hC hrowx
  have hV1 := hV.chg hC (hrowx _ _ _ _ hV)
  have hK1 := hK.chg hC hmap
  by_cases hlt : k < kept.length
  case neg =>
    have hkk : k = kept.length := by omega
    subst hkk
    refine sq ?_
    refine st0 hA (wn rfl) rfl rfl (x_bin rfl rfl (lss3F _ _ _ _ (by omega))) fun a hA => ?_
    refine fin ?_
    refine sqfe hA rfl ?_
    exact x_th (xin (rte hA rfl (hR _ hC hM1)))
  obtain ⟨bk, ok, rfl, hcell⟩ := ints_get hK1 hlt
  refine sq ?_
  refine st0 hA (wn rfl) rfl rfl (x_bin rfl rfl (lss3T _ _ _ _ (by omega))) fun a hA => ?_
  refine fin ?_
  refine sqts hA rfl ?_
  refine sqb ?_
  refine sq ?_
  refine st0 hA (wn rfl) rfl rfl (x_mv rfl) fun a hA => ?_
  refine st0 hA (wn rfl) rfl rfl (x_idx rfl rfl (idxS _ _ _ _ _ _ Yba.underlying60 sz3 hlt)) fun a hA => ?_
  refine st0 hA (wn rfl) rfl rfl (x_load rfl (load_cell ag3 _ _ _ (by rw [Nat.mul_one]; exact hcell))) fun a hA => ?_
  refine st0 hA (wn rfl) rfl rfl (x_as rfl) fun a hA => ?_
  refine st0 hA (wn rfl) rfl rfl (x_as rfl) fun a hA => ?_
  refine fin ?_
  refine cut (fun a' w' => (At a' 255 [(0, .pointer (some ⟨bL, 0, none⟩)), (5, .pointer (some ⟨bF, 0, none⟩)), (8, .slice (some ⟨bR, 0, none⟩) n n), (9, .pointer (some ⟨bw, 0, none⟩)), (10, .pointer (some ⟨bn, 0, none⟩)), (15, .slice (some ⟨bV, 0, none⟩) n n), (17, .slice (some ⟨bk, ok, none⟩) kept.length kc), (174, .slice (some ⟨bk, ok, none⟩) kept.length kc), (175, .int .i64 kept.length), (176, .int .i64 k), (22, .int .i64 k), (23, .int .i64 ((kept.getD k 0 : Nat) : Int))] ∧ w1 = w') ∧ ¬ (k + 1 = kept.length ∧ whole = false)) ?_ ?_
  · refine sq ?_
    refine st0 hA (wn rfl) rfl rfl (x_mv rfl) fun a hA => ?_
    refine st0 hA (wn rfl) rfl rfl (x_bin rfl rfl (add3N _ _ _ (by omega))) fun a hA => ?_
    refine st0 hA (wn rfl) rfl rfl (x_mv rfl) fun a hA => ?_
    refine st0 hA (wn rfl) rfl rfl (x_len rfl Yba.underlying60) fun a hA => ?_
    by_cases hb1 : k + 1 = kept.length
    · refine st0 hA (wn rfl) rfl rfl (x_bin rfl rfl (eql3T _ _ _ _ (by omega))) fun a hA => ?_
      refine st0 hA (wn rfl) rfl rfl (x_mv rfl) fun a hA => ?_
      refine st0 hA (wy rfl rfl rfl) rfl rfl (x_load rfl (hE1.wraps.load1 ag4 (by omega))) fun a hA => ?_
      refine st0 hA (wy rfl rfl rfl) rfl rfl (x_not rfl) fun a hA => ?_
      cases whole with
      | false =>
        refine st0 hA (wn rfl) rfl rfl (x_pick rfl rfl) fun a hA => ?_
        refine fin ?_
        refine cdte hA rfl (xout (x_th (x_th (xin (rte hA rfl (hR _ hC ?_))))) rfl)
        have e : runL v n false kept (fun i => (rs i).1) kept.length = runL v n false kept (fun i => (rs i).1) k := by
          rw [← hb1, runL, stepL, if_pos ⟨by omega, rfl⟩]
        rw [e]
        exact hM1.mono (by omega)
      | true =>
        refine st0 hA (wn rfl) rfl rfl (x_pick rfl rfl) fun a hA => ?_
        refine fin ?_
        exact cdfs hA rfl ⟨⟨hA.pick [0, 5, 8, 9, 10, 15, 17, 174, 175, 176, 22, 23], rfl⟩, by simp⟩
    · refine st0 hA (wn rfl) rfl rfl (x_bin rfl rfl (eql3F _ _ _ _ (by omega))) fun a hA => ?_
      refine st0 hA (wn rfl) rfl rfl (x_mv rfl) fun a hA => ?_
      refine sts hA (sh rfl rfl rfl rfl) rfl rfl fun a hA => ?_
      refine sts hA (sh rfl rfl rfl rfl) rfl rfl fun a hA => ?_
      refine st0 hA (wn rfl) rfl rfl (x_pick rfl rfl) fun a hA => ?_
      refine fin ?_
      exact cdfs hA rfl ⟨⟨hA.pick [0, 5, 8, 9, 10, 15, 17, 174, 175, 176, 22, 23], rfl⟩, fun h => hb1 h.1⟩
  rintro a _ ⟨⟨hA, rfl⟩, hnb⟩
  generalize hi : kept.getD k 0 = i at hA
  generalize hj : kept.getD ((k + 1) % kept.length) 0 = j
  have hin : i < n := by
    rw [← hi, List.getD_eq_getElem?_getD, List.getElem?_eq_getElem hlt]
    exact hkn _ (List.getElem_mem _)
  have hml : (k + 1) % kept.length < kept.length := Nat.mod_lt _ (by omega)
  have hjn : j < n := by
    rw [← hj, List.getD_eq_getElem?_getD, List.getElem?_eq_getElem hml]
    exact hkn _ (List.getElem_mem _)
  obtain ⟨bk', ok', he', hcell'⟩ := ints_get hK1 hml
  simp only [Option.some.injEq, Addr.mk.injEq] at he'
  obtain ⟨rfl, rfl, _⟩ := he'
  rw [hj] at hcell'
  refine sq ?_
  refine st0 hA (wn rfl) rfl rfl (x_mv rfl) fun a hA => ?_
  refine st0 hA (wn rfl) rfl rfl (x_mv rfl) fun a hA => ?_
  refine st0 hA (wn rfl) rfl rfl (x_bin rfl rfl (add3N _ _ _ (by omega))) fun a hA => ?_
  refine st0 hA (wn rfl) rfl rfl (x_mv rfl) fun a hA => ?_
  refine st0 hA (wn rfl) rfl rfl (x_len rfl Yba.underlying60) fun a hA => ?_
  refine st0 hA (wn rfl) rfl rfl (x_bin rfl rfl (rem3N _ _ _ _ (by omega))) fun a hA => ?_
  refine st0 hA (wn rfl) rfl rfl (x_idx rfl rfl (idxS _ _ _ _ _ _ Yba.underlying60 sz3 hml)) fun a hA => ?_
  refine st0 hA (wn rfl) rfl rfl (x_load rfl (load_cell ag3 _ _ _ (by rw [Nat.mul_one]; exact hcell'))) fun a hA => ?_
  refine st0 hA (wn rfl) rfl rfl (x_as rfl) fun a hA => ?_
  refine fin ?_
  refine sq ?_
  refine st0 hA (wn rfl) rfl rfl (x_mv rfl) fun a hA => ?_
  refine st0 hA (wn rfl) rfl rfl (x_mv rfl) fun a hA => ?_
  refine st0 hA (wn rfl) rfl rfl (x_idx rfl rfl (idxS _ _ _ _ _ _ Yba.underlying23 sz4 hin)) fun a hA => ?_
  refine st0 hA (wn rfl) rfl rfl (x_load rfl (hV1.load1 ag4 (by omega))) fun a hA => ?_
  refine st0 hA (wn rfl) rfl rfl (x_as rfl) fun a hA => ?_
  refine fin ?_
  refine cut (fun a' w' => At a' 255 [(0, .pointer (some ⟨bL, 0, none⟩)), (5, .pointer (some ⟨bF, 0, none⟩)), (8, .slice (some ⟨bR, 0, none⟩) n n), (9, .pointer (some ⟨bw, 0, none⟩)), (10, .pointer (some ⟨bn, 0, none⟩)), (15, .slice (some ⟨bV, 0, none⟩) n n), (17, .slice (some ⟨bk, ok, none⟩) kept.length kc), (174, .slice (some ⟨bk, ok, none⟩) kept.length kc), (175, .int .i64 kept.length), (176, .int .i64 k), (22, .int .i64 k), (23, .int .i64 (i : Int)), (24, .int .i64 j), (25, .bool (spanF v n i j))] ∧ w1 = w') ?_ ?_
  · refine sq ?_
    refine st0 hA (wn rfl) rfl rfl (x_mv rfl) fun a hA => ?_
    refine st0 hA (wn rfl) rfl rfl (x_bin rfl rfl (add3N _ _ _ (by omega))) fun a hA => ?_
    refine st0 hA (wn rfl) rfl rfl (x_load rfl (hE1.len.load1 ag3 (by omega))) fun a hA => ?_
    refine st0 hA (wn rfl) rfl rfl (x_bin rfl rfl (rem3N _ _ _ _ (by omega))) fun a hA => ?_
    refine st0 hA (wn rfl) rfl rfl (x_as rfl) fun a hA => ?_
    refine fin ?_
    have hv0 : v (0 + i * 1) = (List.range 1).all fun t => v ((i + t) % n) := by
      simp [List.range_succ, Nat.mod_eq_of_lt hin]
    rw [hv0] at hA
    refine lpb (fun m' a' w' => ∃ t : Nat, t + m' = dist n i j ∧ 1 ≤ t ∧ At a' 255 [(0, .pointer (some ⟨bL, 0, none⟩)), (5, .pointer (some ⟨bF, 0, none⟩)), (8, .slice (some ⟨bR, 0, none⟩) n n), (9, .pointer (some ⟨bw, 0, none⟩)), (10, .pointer (some ⟨bn, 0, none⟩)), (15, .slice (some ⟨bV, 0, none⟩) n n), (17, .slice (some ⟨bk, ok, none⟩) kept.length kc), (174, .slice (some ⟨bk, ok, none⟩) kept.length kc), (175, .int .i64 kept.length), (176, .int .i64 k), (22, .int .i64 k), (23, .int .i64 (i : Int)), (24, .int .i64 j), (25, .bool ((List.range t).all fun t => v ((i + t) % n))), (26, .int .i64 (((i + t) % n : Nat) : Int))] ∧ w1 = w') (dist n i j - 1)
      ⟨1, by have := dist_pos (j := j) hin; omega, by omega, hA.pick [0, 5, 8, 9, 10, 15, 17, 174, 175, 176, 22, 23, 24, 25, 26], rfl⟩ ?_
    rintro m' a _ ⟨t, ht, ht1, hA, rfl⟩
    have hhit := dist_hit (t := t) hin hjn ht1 (by omega)
    refine wp_seq ?_
    cases hall : (List.range t).all fun t => v ((i + t) % n) with
    | false =>
      rw [hall] at hA
      refine sq ?_
      refine st0 hA (wn rfl) rfl rfl (x_mv rfl) fun a hA => ?_
      refine st0 hA (wn rfl) rfl rfl (x_mv rfl) fun a hA => ?_
      refine sts hA (sh rfl rfl rfl rfl) rfl rfl fun a hA => ?_
      refine sts hA (sh rfl rfl rfl rfl) rfl rfl fun a hA => ?_
      refine sts hA (sh rfl rfl rfl rfl) rfl rfl fun a hA => ?_
      refine st0 hA (wn rfl) rfl rfl (x_pick rfl rfl) fun a hA => ?_
      refine fin ?_
      refine cdfe hA rfl (x_th (xin (n_th ⟨?_, rfl⟩)))
      have : spanF v n i j = false := all_false hall (by omega)
      rw [this]
      exact hA.pick [0, 5, 8, 9, 10, 15, 17, 174, 175, 176, 22, 23, 24, 25]
    | true =>
      rw [hall] at hA
      refine sq ?_
      refine st0 hA (wn rfl) rfl rfl (x_mv rfl) fun a hA => ?_
      refine st0 hA (wn rfl) rfl rfl (x_mv rfl) fun a hA => ?_
      refine st0 hA (wy rfl rfl rfl) rfl rfl (x_mv rfl) fun a hA => ?_
      refine st0 hA (wy rfl rfl rfl) rfl rfl (x_mv rfl) fun a hA => ?_
      by_cases hd : t = dist n i j
      · refine st0 hA (wy rfl rfl rfl) rfl rfl (x_bin rfl rfl (neq3F _ _ _ _ (by have := hhit.2 hd; omega))) fun a hA => ?_
        refine st0 hA (wn rfl) rfl rfl (x_pick rfl rfl) fun a hA => ?_
        refine fin ?_
        refine cdfe hA rfl (x_th (xin (n_th ⟨?_, rfl⟩)))
        have : spanF v n i j = true := by unfold spanF; rw [← hd]; exact hall
        rw [this]
        exact hA.pick [0, 5, 8, 9, 10, 15, 17, 174, 175, 176, 22, 23, 24, 25]
      · refine st0 hA (wy rfl rfl rfl) rfl rfl (x_bin rfl rfl (neq3T _ _ _ _ (by have : ¬ (i + t) % n = j := fun e => hd (hhit.1 e); omega))) fun a hA => ?_
        refine st0 hA (wn rfl) rfl rfl (x_pick rfl rfl) fun a hA => ?_
        refine fin ?_
        refine cdts hA rfl ?_
        have hsn : (i + t) % n < n := Nat.mod_lt _ (by omega)
        refine sqb ?_
        refine rg ?_
        refine st0 hA (wn rfl) rfl rfl (x_mv rfl) fun a hA => ?_
        refine st0 hA (wn rfl) rfl rfl (x_mv rfl) fun a hA => ?_
        refine st0 hA (wn rfl) rfl rfl (x_idx rfl rfl (idxS _ _ _ _ _ _ Yba.underlying23 sz4 hsn)) fun a hA => ?_
        refine st0 hA (wn rfl) rfl rfl (x_load rfl (hV1.load1 ag4 (by omega))) fun a hA => ?_
        refine st0 hA (wn rfl) rfl rfl (x_as rfl) fun a hA => ?_
        refine fin0 (n_in (n_th ?_))
        refine rg ?_
        refine st0 hA (wn rfl) rfl rfl (x_mv rfl) fun a hA => ?_
        refine st0 hA (wn rfl) rfl rfl (x_bin rfl rfl (add3N _ _ _ (by omega))) fun a hA => ?_
        refine st0 hA (wn rfl) rfl rfl (x_load rfl (hE1.len.load1 ag3 (by omega))) fun a hA => ?_
        refine st0 hA (wn rfl) rfl rfl (x_bin rfl rfl (rem3N _ _ _ _ (by omega))) fun a hA => ?_
        refine st0 hA (wn rfl) rfl rfl (x_as rfl) fun a hA => ?_
        refine fin0 ?_
        refine ⟨m' - 1, by omega, t + 1, by omega, by omega, ?_, rfl⟩
        have e1 : v (0 + (i + t) % n * 1) = (List.range (t + 1)).all fun t => v ((i + t) % n) := by
          rw [all_succ, hall, Bool.true_and]
          simp
        rw [e1, next_mod] at hA
        exact hA.pick [0, 5, 8, 9, 10, 15, 17, 174, 175, 176, 22, 23, 24, 25, 26]
  rintro a _ ⟨hA, rfl⟩
  have hki := hrs i hin
  have hkj := hrs j hjn
  obtain ⟨W1, hr1, m1⟩ := mk_alloc _ al65 w1.drew
  have hs1 : W1.heap.size = w1.heap.size + 1 := m1.2.1
  obtain ⟨W2, hr2, u2, r2⟩ := m1.row.store (ty := 65) (o := 0) (pairC (rs i).1 (rs j).1) (by rw [pairC_len]; exact info65) (pairC_one _ _) (by rw [pairC_len]; exact Nat.le_refl _)
  have c01 : Chg (fun _ => False) w1 W1 := (Chg.refl _ w1).drew.trans (Chg.of_below m1.1)
  have hC2 : Chg (fun _ => False) w1 W2 := c01.comp (Chg.of_up (X := (· = w1.drew.heap.size)) u2 rfl) fun x hx e => by
    have : x = w1.heap.size := e
    omega
  have hR0 : Routes w1.drew bR n rs := hE1.routes
  have hR1' : Routes W1 bR n rs := Row.chg hE1.routes c01 id
  have hR2 : Routes W2 bR n rs := Row.chg hE1.routes hC2 id
  have rp2 : Row W2 w1.heap.size 65 64 (fun i' => (pairC (rs i).1 (rs j).1).getD i' undef) := by
    refine r2.ext fun x hx => ?_
    have hx' : x < 64 := hx
    rw [if_pos (by rw [pairC_len]; omega)]
    rfl
  refine wp_seq ?_
  refine drawn_ph [.slice (some ⟨bR, 0, none⟩) n n, .int .i64 i, .pointer (some ⟨bR, 0 + i * 36, none⟩), .pointer (some ⟨bR, 0 + i * 36, none⟩), keyV (rs i).1, .slice (some ⟨bR, 0, none⟩) n n, .int .i64 j, .pointer (some ⟨bR, 0 + j * 36, none⟩), .pointer (some ⟨bR, 0 + j * 36, none⟩), keyV (rs j).1, pairV (rs i).1 (rs j).1, .pointer (some ⟨w1.heap.size, 0, none⟩), undef] [11, 12]
    (fun q w' => Routes w' bR n rs ∧ ([w1.drew, W1, W2] : List World)[q]? = some w') (hA.pick [0, 5, 8, 9, 10, 15, 17, 174, 175, 176, 22, 23, 24, 25]) mixed (by kernel_rfl) (by kernel_rfl) rfl ⟨hR0, rfl⟩ ?_ ?_
  · refine each_cons (dp0 rfl rfl [] rfl (wn rfl) fun q w hS => (x_mv rfl)) ?_
    refine each_cons (dp0 rfl rfl [] rfl (wn rfl) fun q w hS => (x_mv rfl)) ?_
    refine each_cons (dp0 rfl rfl [(220, 0), (221, 1)] rfl (wn rfl) fun q w hS => (x_idx rfl rfl (idxS _ _ _ _ _ _ Yba.underlying53 sz55 hin))) ?_
    refine each_cons (dp0 rfl rfl [(222, 2)] rfl (wn rfl) fun q w hS => (x_fld rfl (fld55_0 _ _ _))) ?_
    refine each_cons (dp0 rfl rfl [(223, 3)] rfl (wn rfl) fun q w hS => (x_load rfl (hS.1.key hin))) ?_
    refine each_cons (dp0 rfl rfl [] rfl (wn rfl) fun q w hS => (x_mv rfl)) ?_
    refine each_cons (dp0 rfl rfl [] rfl (wn rfl) fun q w hS => (x_mv rfl)) ?_
    refine each_cons (dp0 rfl rfl [(225, 5), (226, 6)] rfl (wn rfl) fun q w hS => (x_idx rfl rfl (idxS _ _ _ _ _ _ Yba.underlying53 sz55 hjn))) ?_
    refine each_cons (dp0 rfl rfl [(227, 7)] rfl (wn rfl) fun q w hS => (x_fld rfl (fld55_0 _ _ _))) ?_
    refine each_cons (dp0 rfl rfl [(228, 8)] rfl (wn rfl) fun q w hS => (x_load rfl (hS.1.key hjn))) ?_
    refine each_cons (dp0 rfl rfl [(224, 4), (229, 9)] rfl (wn rfl) fun q w hS => (x_build rfl (build65 _ _ _))) ?_
    refine each_cons (dp1 rfl rfl [] rfl (wn rfl) fun w hS => (x_alloc ⟨W1, by obtain rfl := Option.some.inj hS.2; exact hr1, hR1', rfl⟩)) ?_
    refine each_cons (dp1 rfl rfl [(27, 11), (230, 10)] rfl (wn rfl) fun w hS => (x_store rfl rfl ⟨W2, by obtain rfl := Option.some.inj hS.2; exact hr2, hR2, rfl⟩)) ?_
    exact each_nil
  rintro a w2 hA ⟨_, e2⟩
  obtain rfl := Option.some.inj e2
  refine n_th ?_
  have hE2 : Env W2 bL bF bw bn bR n p fr whole rs := hE1.keep hC2 fun _ _ _ _ _ => id
  have hM2 := hM1.chg hC2
  have hCC : Chg (· = p.linked) w W2 := hC.trans (hC2.mono fun _ _ h => h.elim)
  obtain ⟨mm, g1, g2, g3⟩ := id hM2
  have hAps : Aps W2 ((mm ((rs i).1, (rs j).1)).getD (.slice none 0 0)) (if ((rs i).1, (rs j).1) ∈ runL v n whole kept (fun i => (rs i).1) k then [fr] else []) := by
    by_cases hm : ((rs i).1, (rs j).1) ∈ runL v n whole kept (fun i => (rs i).1) k
    · rw [if_pos hm]
      obtain ⟨u, hu⟩ := Option.isSome_iff_exists.1 ((g2 ((rs i).1, (rs j).1) hki hkj).2 hm)
      rw [hu]
      exact Aps.of_own (g3 ((rs i).1, (rs j).1) u hki hkj hu)
    · rw [if_neg hm]
      have : mm ((rs i).1, (rs j).1) = none := by
        cases hu : mm ((rs i).1, (rs j).1) with
        | none => rfl
        | some u => exact absurd ((g2 ((rs i).1, (rs j).1) hki hkj).1 (by rw [hu]; rfl)) hm
      rw [this]
      exact ⟨none, 0, rfl, fun k x hk => by simp at hk⟩
  have hstep : runL v n whole kept (fun i => (rs i).1) (k + 1) = if spanF v n i j = true ∧ ((rs i).1, (rs j).1) ∉ runL v n whole kept (fun i => (rs i).1) k then runL v n whole kept (fun i => (rs i).1) k ++ [((rs i).1, (rs j).1)] else runL v n whole kept (fun i => (rs i).1) k := by
    rw [runL, stepL, if_neg hnb, pairAt, hi, hj]
  generalize hps : runL v n whole kept (fun i => (rs i).1) k = ps at *
  have hdone : ∀ a w', At a 255 [(0, .pointer (some ⟨bL, 0, none⟩)), (5, .pointer (some ⟨bF, 0, none⟩)), (8, .slice (some ⟨bR, 0, none⟩) n n), (9, .pointer (some ⟨bw, 0, none⟩)), (10, .pointer (some ⟨bn, 0, none⟩)), (15, .slice (some ⟨bV, 0, none⟩) n n), (17, .slice (some ⟨bk, ok, none⟩) kept.length kc), (174, .slice (some ⟨bk, ok, none⟩) kept.length kc), (175, .int .i64 kept.length), (176, .int .i64 ((k + 1 : Nat) : Int))] → Chg (· = p.linked) w w' → LinkM w' p.linked (nl + (k + 1)) 0 (runL v n whole kept (fun i => (rs i).1) (k + 1)) fr →
      ∃ m', m' < m ∧ ∃ k : Nat, k + m' = kept.length ∧ At a 255 [(0, .pointer (some ⟨bL, 0, none⟩)), (5, .pointer (some ⟨bF, 0, none⟩)), (8, .slice (some ⟨bR, 0, none⟩) n n), (9, .pointer (some ⟨bw, 0, none⟩)), (10, .pointer (some ⟨bn, 0, none⟩)), (15, .slice (some ⟨bV, 0, none⟩) n n), (17, .slice (some ⟨bk, ok, none⟩) kept.length kc), (174, .slice (some ⟨bk, ok, none⟩) kept.length kc), (175, .int .i64 kept.length), (176, .int .i64 k)] ∧
    Chg (· = p.linked) w w' ∧ LinkM w' p.linked (nl + k) 0 (runL v n whole kept (fun i => (rs i).1) k) fr := fun a w' h1 h2 h3 => ⟨m - 1, by omega, k + 1, by omega, h1, h2, h3⟩
  refine wp_seq ?_
  cases hspan : spanF v n i j with
  | false =>
    rw [hspan] at hA
    refine drawn_keep [.bool false, .bool false, undef, undef, undef, undef, undef, undef, undef, undef, undef, .bool false] (· = W2.drew) (hA.pick [0, 5, 8, 9, 10, 15, 17, 174, 175, 176, 25, 27]) mixed rfl rfl ?_ ?_
    · refine each_cons (do0 rfl [] rfl (wn rfl) fun w hS => (x_mv rfl)) ?_
      refine each_cons (do0 rfl [(231, 0)] rfl (wn rfl) fun w hS => (x_mv rfl)) ?_
      refine each_cons (dos rfl [(232, 1)] rfl (sh rfl rfl rfl rfl) rfl) ?_
      refine each_cons (dos rfl [(232, 1)] rfl (sh rfl rfl rfl rfl) rfl) ?_
      refine each_cons (dos rfl [(232, 1)] rfl (sh rfl rfl rfl rfl) rfl) ?_
      refine each_cons (dos rfl [(232, 1)] rfl (sh rfl rfl rfl rfl) rfl) ?_
      refine each_cons (dos rfl [(232, 1)] rfl (sh rfl rfl rfl rfl) rfl) ?_
      refine each_cons (dos rfl [(232, 1)] rfl (sh rfl rfl rfl rfl) rfl) ?_
      refine each_cons (dos rfl [(232, 1)] rfl (sh rfl rfl rfl rfl) rfl) ?_
      refine each_cons (dos rfl [(232, 1)] rfl (sh rfl rfl rfl rfl) rfl) ?_
      refine each_cons (dos rfl [(232, 1)] rfl (sh rfl rfl rfl rfl) rfl) ?_
      refine each_cons (do0 rfl [(232, 1), (241, 10)] rfl (wn rfl) fun w hS => (x_pick rfl rfl)) ?_
      exact each_nil
    intro a w3 hA e3
    subst e3
    refine n_th ?_
    refine cdfz hA rfl (n_in (n_th ?_))
    refine rg ?_
    refine st0 hA (wn rfl) rfl rfl (x_bin rfl rfl (add3N _ _ _ (by omega))) fun a hA => ?_
    refine st0 hA (wn rfl) rfl rfl (x_mv rfl) fun a hA => ?_
    refine fin0 (n_th (hdone _ _ (hA.pick [0, 5, 8, 9, 10, 15, 17, 174, 175, 176]) hCC.drew ?_))
    rw [hstep, hspan, if_neg (by simp)]
    exact (hM2.chg (Chg.refl _ _).drew).mono (by omega)
  | true =>
    rw [hspan] at hA
    have hlook : ∀ w3, Below W2.heap.size W2 w3 → (Instr.lookup 44 (.map (some p.linked)) (pairV (rs i).1 (rs j).1) false).run Yba.prog w3 = .ok ((mm ((rs i).1, (rs j).1)).getD (.slice none 0 0)) w3 := fun w3 h3 => (g1.below h3 g1.lt).look Yba.underlying44 (zero66 w3) (x := ((rs i).1, (rs j).1)) ⟨hki, hkj⟩
    have hhas : ∀ w3, Below W2.heap.size W2 w3 → Calls Yba.prog 24 #[(mm ((rs i).1, (rs j).1)).getD (.slice none 0 0), apV fr] w3 fun e w' => e = .returned (.bool (decide (((rs i).1, (rs j).1) ∈ ps))) ∧ Below W2.heap.size W2 w' := fun w3 h3 => by
      refine (has_ap fr _ _ w3 (by split <;> simp) (hAps.below h3)).mono ?_
      rintro e w' ⟨rfl, hb⟩
      refine ⟨?_, h3.trans (hb.mono h3.size)⟩
      by_cases hm : ((rs i).1, (rs j).1) ∈ ps
      · rw [if_pos hm, decide_eq_true hm]; simp
      · rw [if_neg hm, decide_eq_false hm]; simp
    refine drawn_keep [.bool true, .bool true, .pointer (some ⟨bL, 0, none⟩), .pointer (some ⟨bL, 0, none⟩), .pointer (some ⟨bL, 0 + 103, none⟩), .map (some p.linked), pairV (rs i).1 (rs j).1, (mm ((rs i).1, (rs j).1)).getD (.slice none 0 0), apV fr, .bool (decide (((rs i).1, (rs j).1) ∈ ps)), .bool (!(decide (((rs i).1, (rs j).1) ∈ ps))), .bool (!(decide (((rs i).1, (rs j).1) ∈ ps)))] (fun w' => Below W2.heap.size W2 w') (hA.pick [0, 5, 8, 9, 10, 15, 17, 174, 175, 176, 25, 27]) mixed rfl (Below.refl _ _).drew ?_ ?_
    · refine each_cons (do0 rfl [] rfl (wn rfl) fun w hS => (x_mv rfl)) ?_
      refine each_cons (do0 rfl [(231, 0)] rfl (wn rfl) fun w hS => (x_mv rfl)) ?_
      refine each_cons (do0 rfl [(232, 1)] rfl (wy rfl rfl rfl) fun w hS => (x_mv rfl)) ?_
      refine each_cons (do0 rfl [(233, 2), (232, 1)] rfl (wy rfl rfl rfl) fun w hS => (x_nil rfl)) ?_
      refine each_cons (do0 rfl [(234, 3), (232, 1)] rfl (wy rfl rfl rfl) fun w hS => (x_fld rfl (fld49_7 _ _ _))) ?_
      refine each_cons (do0 rfl [(235, 4), (232, 1)] rfl (wy rfl rfl rfl) fun w hS => (x_load rfl (Lk.one (hE2.lk.below hS hE2.lk.lt) ag44 3 _ (by omega) rfl))) ?_
      refine each_cons (do0 rfl [(232, 1)] rfl (wy rfl rfl rfl) fun w hS => (x_load rfl (row_pair (rp2.below hS rp2.lt)))) ?_
      refine each_cons (do0 rfl [(236, 5), (237, 6), (232, 1)] rfl (wy rfl rfl rfl) fun w hS => (x_look rfl rfl (hlook w hS))) ?_
      refine each_cons (do0 rfl [(232, 1)] rfl (wy rfl rfl rfl) fun w hS => (x_load rfl (row_ap (hE2.from'.below hS hE2.from'.lt)))) ?_
      refine each_cons (do1 rfl [(238, 7), (239, 8), (232, 1)] rfl (wy rfl rfl rfl) fun w hS => (x_call (cap := []) rfl rfl c24 (hhas w hS))) ?_
      refine each_cons (do0 rfl [(240, 9), (232, 1)] rfl (wy rfl rfl rfl) fun w hS => (x_not rfl)) ?_
      refine each_cons (do0 rfl [(232, 1), (241, 10)] rfl (wn rfl) fun w hS => (x_pick rfl rfl)) ?_
      exact each_nil
    intro a w3 hA h3
    refine n_th ?_
    have hC3 : Chg (· = p.linked) w w3 := hCC.trans (Chg.of_below h3)
    have hM3 : LinkM w3 p.linked (nl + k) 0 ps fr := hM2.chg (Chg.of_below h3)
    by_cases hm : ((rs i).1, (rs j).1) ∈ ps
    · rw [decide_eq_true hm] at hA
      refine cdfz hA rfl (n_in (n_th ?_))
      refine rg ?_
      refine st0 hA (wn rfl) rfl rfl (x_bin rfl rfl (add3N _ _ _ (by omega))) fun a hA => ?_
      refine st0 hA (wn rfl) rfl rfl (x_mv rfl) fun a hA => ?_
      refine fin0 (n_th (hdone _ _ (hA.pick [0, 5, 8, 9, 10, 15, 17, 174, 175, 176]) hC3 ?_))
      rw [hstep, if_neg (fun h => h.2 hm)]
      exact hM3.mono (by omega)
    · rw [decide_eq_false hm] at hA
      refine cdt hA rfl ?_
      obtain ⟨V1, hb1, n1⟩ := mk_bs66 fr w3.drew
      have d1 : Chg (fun _ => False) w3 V1 := (Chg.refl _ w3).drew.trans (Chg.of_below n1.1)
      obtain ⟨sn, V2, hb2, v2, hst⟩ := (hM3.chg d1).entry (by omega) hki hkj hm
      have hmapV1 := (hM3.chg d1).map
      have d2 : Chg (· = p.linked) w3 V2 := (d1.mono fun _ _ h => h.elim).trans (Chg.of_up v2 rfl)
      have rb : Row V2 w3.heap.size 37 (apC fr).length (fun i => (apC fr).getD i undef) := n1.row.up v2 (row_ne_map n1.row hmapV1)
      obtain ⟨v', V3, hb3, hown3, d3⟩ := app1' (t := 66) (e := 37) (base := 0) Yba.underlying66 ti37 rfl (by omega) (World.ownsRow_nil V2 0 37 4) rb rfl (apC_one fr) (by omega) (by omega) (Nat.zero_le _) 66 #[false, false]
      have d3' : Chg (fun _ => False) V2 V3 := d3.mono fun x _ e => by simp [Value.ownBlock] at e
      obtain ⟨V4, hb4, v4, hM4⟩ := hst V3 v' d3' hown3
      have e1 : Env V1 bL bF bw bn bR n p fr whole rs := (hE2.keep (Chg.of_below (X := fun _ => False) h3) fun _ _ _ _ _ => id).keep d1 fun _ _ _ _ _ => id
      have hE3 : Env w3 bL bF bw bn bR n p fr whole rs := hE2.keep (Chg.of_below (X := fun _ => False) h3) fun _ _ _ _ _ => id
      have hmap3 := hM3.map
      have hrow3 : ∀ b t m g, Row w3 b t m g → ¬ (b = p.linked) := fun b t m g h => row_ne_map h hmap3
      have e2 : Env V2 bL bF bw bn bR n p fr whole rs := hE3.keep d2 hrow3
      have d3w : Chg (· = p.linked) w3 V3 := d2.trans (d3'.mono fun _ _ h => h.elim)
      have e3 : Env V3 bL bF bw bn bR n p fr whole rs := hE3.keep d3w hrow3
      have d4w : Chg (· = p.linked) w3 V4 := d3w.trans (Chg.of_up v4 rfl)
      have e4 : Env V4 bL bF bw bn bR n p fr whole rs := hE3.keep d4w hrow3
      have rp3 : Row w3 w1.heap.size 65 64 (fun i' => (pairC (rs i).1 (rs j).1).getD i' undef) := rp2.below h3 rp2.lt
      have hrp : ∀ w', Chg (· = p.linked) w3 w' → Row w' w1.heap.size 65 64 (fun i' => (pairC (rs i).1 (rs j).1).getD i' undef) := fun w' h => rp3.chg h (hrow3 _ _ _ _ rp3)
      refine drawn_ph [.pointer (some ⟨bL, 0, none⟩), .pointer (some ⟨bL, 0, none⟩), .pointer (some ⟨bL, 0 + 103, none⟩), .map (some p.linked), pairV (rs i).1 (rs j).1, apV fr, .slice (some ⟨w3.heap.size, 0, none⟩) 1 1, .tuple #[.slice none 0 0, goInt sn], .slice none 0 0, v', goInt sn, undef] [6, 7, 9, 11]
        (fun q w' => (Env w' bL bF bw bn bR n p fr whole rs ∧ Row w' w1.heap.size 65 64 (fun i' => (pairC (rs i).1 (rs j).1).getD i' undef)) ∧ ([w3.drew, V1, V2, V3, V4] : List World)[q]? = some w') (hA.pick [0, 5, 8, 9, 10, 15, 17, 174, 175, 176, 27]) mixed (by kernel_rfl) (by kernel_rfl) rfl ⟨⟨hE3.keep (Chg.refl (fun _ => False) w3).drew fun _ _ _ _ _ => id, rp3⟩, rfl⟩ ?_ ?_
      · refine each_cons (dp0 rfl rfl [] rfl (wn rfl) fun q w hS => (x_mv rfl)) ?_
        refine each_cons (dp0 rfl rfl [(243, 0)] rfl (wn rfl) fun q w hS => (x_nil rfl)) ?_
        refine each_cons (dp0 rfl rfl [(244, 1)] rfl (wn rfl) fun q w hS => (x_fld rfl (fld49_7 _ _ _))) ?_
        refine each_cons (dp0 rfl rfl [(245, 2)] rfl (wn rfl) fun q w hS => (x_load rfl (Lk.one hS.1.1.lk ag44 3 _ (by omega) rfl))) ?_
        refine each_cons (dp0 rfl rfl [] rfl (wn rfl) fun q w hS => (x_load rfl (row_pair hS.1.2))) ?_
        refine each_cons (dp0 rfl rfl [] rfl (wn rfl) fun q w hS => (x_load rfl (row_ap hS.1.1.from'))) ?_
        refine each_cons (dp1 rfl rfl [(249, 5)] rfl (wn rfl) fun w hS => (x_bslice rfl ⟨V1, by obtain rfl := Option.some.inj hS.2; exact hb1, ⟨e1, hrp _ (d1.mono fun _ _ h => h.elim)⟩, rfl⟩)) ?_
        refine each_cons (dp1 rfl rfl [(246, 3), (247, 4)] rfl (wn rfl) fun w hS => (x_mapentry rfl rfl ⟨V2, by obtain rfl := Option.some.inj hS.2; exact hb2, ⟨e2, hrp _ d2⟩, rfl⟩)) ?_
        refine each_cons (dp0 rfl rfl [(251, 7)] rfl (wn rfl) fun q w hS => (x_ext rfl rfl)) ?_
        refine each_cons (dp1 rfl rfl [(248, 8), (250, 6)] rfl (wn rfl) fun w hS => (x_blt rfl ⟨V3, by obtain rfl := Option.some.inj hS.2; exact hb3, ⟨e3, hrp _ d3w⟩, rfl⟩)) ?_
        refine each_cons (dp0 rfl rfl [(251, 7)] rfl (wn rfl) fun q w hS => (x_ext rfl rfl)) ?_
        refine each_cons (dp1 rfl rfl [(246, 3), (253, 10), (252, 9)] rfl (wn rfl) fun w hS => (x_estore rfl rfl rfl ⟨V4, by obtain rfl := Option.some.inj hS.2; exact hb4, ⟨e4, hrp _ d4w⟩, rfl⟩)) ?_
        exact each_nil
      rintro a w4 hA ⟨_, e4⟩
      obtain rfl := Option.some.inj e4
      refine n_in (n_th ?_)
      refine rg ?_
      refine st0 hA (wn rfl) rfl rfl (x_bin rfl rfl (add3N _ _ _ (by omega))) fun a hA => ?_
      refine st0 hA (wn rfl) rfl rfl (x_mv rfl) fun a hA => ?_
      refine fin0 (n_th (hdone _ _ (hA.pick [0, 5, 8, 9, 10, 15, 17, 174, 175, 176]) (hC3.trans d4w) ?_))
      rw [hstep, if_pos ⟨hspan, hm⟩]
      exact hM4
end Go.Proofs.Ybulkcrtu
