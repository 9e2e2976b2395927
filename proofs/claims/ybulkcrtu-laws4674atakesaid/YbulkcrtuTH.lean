import Derived.Test.YbulkcrtuTG
namespace Go.Proofs.Ybulkcrtu
open Go.RowKit Go.ChangeMaps Go.MapKept

theorem own_cells {w : World} {base e size n : Nat} {v : Value} {xs : List Value} (h : w.ownsRow base e size v n xs) (hn : 0 < n) : ∃ g cap, v = .slice (some ⟨g, 0, none⟩) n cap ∧ ∀ j u, xs[j]? = some u → w.cell? ⟨g, j, none⟩ = some u := by
  obtain ⟨_, ⟨rfl, h0⟩ | ⟨g, cap, cur, rfl, h3, h4, _, _, _, h6⟩⟩ := h
  · omega
  · refine ⟨g, cap, rfl, fun j u hj => ?_⟩
    simp only [World.cell?, h4, Option.isSome_none, Bool.false_eq_true, if_false]
    rw [← h6, List.getElem?_take] at hj
    split at hj
    · simpa using hj
    · cases hj
theorem flat_get {α β : Type} (f : α → List β) (size : Nat) (hf : ∀ x, (f x).length = size) : ∀ (l : List α) (k j : Nat) (x : α) (u : β), l[k]? = some x → (f x)[j]? = some u → (l.flatMap f)[k * size + j]? = some u
  | [], k, _, _, _, h, _ => by simp at h
  | y :: r, 0, j, x, u, h, hu => by
    simp only [List.getElem?_cons_zero, Option.some.injEq] at h
    subst h
    rw [List.flatMap_cons, Nat.zero_mul, Nat.zero_add, List.getElem?_append_left (List.getElem?_eq_some_iff.1 hu).1]
    exact hu
  | y :: r, k + 1, j, x, u, h, hu => by
    rw [List.getElem?_cons_succ] at h
    have := flat_get f size hf r k j x u h hu
    rw [List.flatMap_cons, List.getElem?_append_right (by rw [hf, Nat.add_mul]; omega), hf, show (k + 1) * size + j - size = k * size + j by rw [Nat.add_mul]; omega]
    exact this
def pairsC (ps : List (Nat × Nat)) : List Value := ps.flatMap fun q => pairC q.1 q.2
theorem own_pair {w : World} {base n : Nat} {v : Value} {ps : List (Nat × Nat)} (h : w.ownsRow base 65 64 v n (pairsC ps)) (hn : n = ps.length) {k : Nat} {q : Nat × Nat} (hk : ps[k]? = some q) :
    ∃ g cap, v = .slice (some ⟨g, 0, none⟩) n cap ∧ (Instr.loadAt 65 (.pointer (some ⟨g, 0 + k * 64, none⟩))).run Yba.prog w = .ok (pairV q.1 q.2) w := by
  have hkl := (List.getElem?_eq_some_iff.1 hk).1
  obtain ⟨g, cap, rfl, hc⟩ := own_cells h (by omega)
  refine ⟨g, cap, rfl, ?_⟩
  exact run_loadAt_mid w g (0 + k * 64) 65 (pairC q.1 q.2) _ (fun j u hj => by
    rw [Nat.zero_add]
    exact hc _ _ (flat_get (fun q : Nat × Nat => pairC q.1 q.2) 64 (fun q => pairC_len q.1 q.2) ps k j q u hk hj)) Yba.underlying65 rfl (by rw [pairC_len]; exact info65)
theorem blt_mlen {w : World} {b n sz : Nat} {m : Nat × Nat → Option Value} (h : MapK K65 w b n sz m) (ty : TypeId) (cs : Array Bool) : ∃ w', Blt .len #[44] ty cs #[.map (some b)] w (.int .i64 (sz : Int)) w' ∧ w' = w := by
  refine ⟨w, ?_, rfl⟩
  unfold Blt
  simp only [builtin, Sem.run_bind, MapK.len h Yba.underlying44 ty, Result.andThen_ok, Sem.run_pure]
set_option maxRecDepth 100000 in
set_option maxHeartbeats 2000000 in
/-- The law's end: the pairs are those of the map. -/
theorem law6 (bL nl base : Nat) (p : LkP) (fr : Int) (ps : List (Nat × Nat)) (pv : Value) (R : Ending → World → Prop) (hps : ∀ q ∈ ps, q.1 ≤ 255 ∧ q.2 ≤ 255) (hpl : ps.length ≤ 1000)
    (a : Act) (w : World) (hA : At a 499 [(22, .int .u16 fr), (26, .pointer (some ⟨bL, 0, none⟩)), (53, pv)]) (hL : Lk w bL p) (hM : LinkM w p.linked nl 0 ps fr) (hP : w.ownsRow base 65 64 pv ps.length (pairsC ps))
    (hR : ∀ w', Chg (fun _ => False) w w' → R (.returned (.bool true)) w') : (dropS 30 (Yba.f3.body.getD .skip)).wp Yba.prog (bodyPost Yba.prog Yba.f3 R) a w := by
  obtain ⟨qv, cv, rfl⟩ := owns_slice hP
  obtain ⟨mm, g1, _⟩ := id hM
  refine wp_seq ?_
  refine sq ?_
  refine st0 hA (wn rfl) rfl rfl (x_mv rfl) fun a hA => ?_
  refine st0 hA (wn rfl) rfl rfl (x_nil rfl) fun a hA => ?_
  refine st0 hA (wn rfl) rfl rfl (x_fld rfl (fld49_7 _ _ _)) fun a hA => ?_
  refine st0 hA (wn rfl) rfl rfl (x_load rfl (Lk.one hL ag44 3 _ (by omega) rfl)) fun a hA => ?_
  refine st0 hA (wn rfl) rfl rfl (x_blt rfl (blt_mlen g1 _ _)) fun a hA => ?_
  refine st0 hA (wn rfl) rfl rfl (x_mv rfl) fun a hA => ?_
  refine st0 hA (wn rfl) rfl rfl (x_len rfl Yba.underlying64) fun a hA => ?_
  refine st0 hA (wn rfl) rfl rfl (x_bin rfl rfl (neq3F _ _ _ _ (by simp))) fun a hA => ?_
  refine fin ?_
  refine cdfs hA rfl ?_
  refine wp_seq ?_
  refine sq ?_
  refine st0 hA (wn rfl) rfl rfl (x_mv rfl) fun a hA => ?_
  refine st0 hA (wn rfl) rfl rfl (x_len rfl Yba.underlying64) fun a hA => ?_
  refine st0 hA (wn rfl) rfl rfl (x_mv rfl) fun a hA => ?_
  refine fin ?_
  refine lpb (fun m a w' => ∃ k : Nat, k + m = ps.length ∧ At a 499 [(22, .int .u16 fr), (26, .pointer (some ⟨bL, 0, none⟩)), (475, .slice qv ps.length cv), (476, .int .i64 (ps.length : Int)), (477, .int .i64 (k : Int))] ∧ Chg (fun _ => False) w w') ps.length ⟨0, by omega, hA.pick [22, 26, 475, 476, 477], Chg.refl _ _⟩ ?_
  rintro m a w1 ⟨k, hkm, hA, hc⟩
  by_cases hlt : k < ps.length
  case neg =>
    refine sq ?_
    refine st0 hA (wn rfl) rfl rfl (x_bin rfl rfl (lss3F _ _ _ _ (by omega))) fun a hA => ?_
    refine fin ?_
    refine sqfe hA rfl (x_th (xin (n_th ?_)))
    refine sq ?_
    refine st0 hA (wn rfl) rfl rfl (x_as rfl) fun a hA => ?_
    refine fin ?_
    exact wp_ret (rt hA rfl rfl (hR w1 hc))
  have hL1 : Lk w1 bL p := Row.chg hL hc id
  have hM1 := hM.chg hc
  have hP1 := owns_keep hP hc fun _ _ => id
  obtain ⟨q, hq⟩ : ∃ q, ps[k]? = some q := ⟨_, List.getElem?_eq_getElem hlt⟩
  obtain ⟨hq1, hq2⟩ := hps q (List.mem_of_getElem? hq)
  obtain ⟨g, cap, he, hload⟩ := own_pair hP1 rfl hq
  simp only [Value.slice.injEq] at he
  obtain ⟨rfl, _, rfl⟩ := he
  obtain ⟨w2, hr2, m2⟩ := mk_alloc _ al65 w1
  have hs2 : w2.heap.size = w1.heap.size + 1 := m2.2.1
  obtain ⟨w3, hr3, u3, r3⟩ := m2.row.store (ty := 65) (o := 0) (pairC q.1 q.2) (by rw [pairC_len]; exact info65) (pairC_one _ _) (by rw [pairC_len]; exact Nat.le_refl _)
  have c13 : Chg (fun _ => False) w1 w3 := (Chg.F m2.1).comp (Chg.of_up (X := (· = w1.heap.size)) u3 rfl) fun x hx e => by
    have : x = w1.heap.size := e
    omega
  have rp3 : Row w3 w1.heap.size 65 64 (fun i' => (pairC q.1 q.2).getD i' undef) := by
    refine r3.ext fun x hx => ?_
    have hx' : x < 64 := hx
    rw [if_pos (by rw [pairC_len]; omega)]
    rfl
  refine sq ?_
  refine st0 hA (wn rfl) rfl rfl (x_bin rfl rfl (lss3T _ _ _ _ (by omega))) fun a hA => ?_
  refine fin ?_
  refine sqts hA rfl ?_
  refine sqb ?_
  refine sq ?_
  refine st0 hA (wn rfl) rfl rfl (x_idx rfl rfl (idxS _ _ _ _ _ _ Yba.underlying64 sz65 hlt)) fun a hA => ?_
  refine st0 hA (wn rfl) rfl rfl (x_load rfl hload) fun a hA => ?_
  refine st hA (wn rfl) rfl rfl (x_alloc ⟨w2, hr2, rfl⟩) fun a w2' hA e => ?_
  subst e
  refine stn hA (wn rfl) rfl (x_store rfl rfl ⟨w3, hr3, rfl⟩) fun w3' e => ?_
  subst e
  refine fin ?_
  have hL3 : Lk w3 bL p := Row.chg hL1 c13 id
  have hM3 := hM1.chg c13
  have hM3' := hM3.chg (Chg.refl _ w3).drew
  obtain ⟨v, hv1, hv2, _⟩ := hM3'.look hq1 hq2
  have hown := hv2 (List.mem_of_getElem? hq)
  obtain ⟨g', cap', rfl, hcl⟩ := own_cells hown (by omega)
  have hA : At a 499 [(22, .int .u16 fr), (26, .pointer (some ⟨bL, 0, none⟩)), (475, .slice (some ⟨g, 0, none⟩) ps.length cv), (476, .int .i64 (ps.length : Int)), (477, .int .i64 (k : Int)), (65, .pointer (some ⟨w1.heap.size, 0, none⟩))] := hA.pick [22, 26, 475, 476, 477, 65]
  refine wp_seq ?_
  refine drawn_keep [.pointer (some ⟨bL, 0, none⟩), .pointer (some ⟨bL, 0, none⟩), .pointer (some ⟨bL, 0 + 103, none⟩), .map (some p.linked), pairV q.1 q.2, .slice (some ⟨g', 0, none⟩) 1 cap', .slice (some ⟨g', 0, none⟩) 1 cap'] (· = w3.drew) hA mixed (by kernel_rfl) rfl ?_ ?_
  · refine each_cons (do0 rfl [] rfl (wn rfl) fun w hS => (x_mv rfl)) ?_
    refine each_cons (do0 rfl [(481, 0)] rfl (wn rfl) fun w hS => (x_nil rfl)) ?_
    refine each_cons (do0 rfl [(482, 1)] rfl (wn rfl) fun w hS => (x_fld rfl (fld49_7 _ _ _))) ?_
    refine each_cons (do0 rfl [(483, 2)] rfl (wn rfl) fun w hS => (x_load rfl (by subst hS; exact Lk.one (w := w3.drew) hL3 ag44 3 _ (by omega) rfl))) ?_
    refine each_cons (do0 rfl [] rfl (wn rfl) fun w hS => (x_load rfl (by subst hS; exact row_pair (w := w3.drew) rp3))) ?_
    refine each_cons (do0 rfl [(484, 3), (485, 4)] rfl (wn rfl) fun w hS => (x_look rfl rfl (by subst hS; exact hv1))) ?_
    refine each_cons (do0 rfl [(486, 5)] rfl (wn rfl) fun w hS => (x_as rfl)) ?_
    exact each_nil
  intro a w4 hA e4
  subst e4
  refine n_th ?_
  have hA : At a 499 [(22, .int .u16 fr), (26, .pointer (some ⟨bL, 0, none⟩)), (475, .slice (some ⟨g, 0, none⟩) ps.length cv), (476, .int .i64 (ps.length : Int)), (477, .int .i64 (k : Int)), (66, .slice (some ⟨g', 0, none⟩) 1 cap')] := hA.pick [22, 26, 475, 476, 477, 66]
  have hglt : g' < w3.drew.heap.size := (owns_lt hown rfl).2.1
  refine wp_seq ?_
  refine drawn_keep [.slice (some ⟨g', 0, none⟩) 1 cap', .int .i64 1, .bool false, .bool false, .slice (some ⟨g', 0, none⟩) 1 cap', .pointer (some ⟨g', 0 + 0 * 4, none⟩), apV fr, .int .u16 fr, apV fr, .bool false, .bool false] (fun w' => Below w3.drew.heap.size w3.drew w') hA mixed (by kernel_rfl) (Below.refl _ _).drew ?_ ?_
  · refine each_cons (do0 rfl [] rfl (wn rfl) fun w hS => (x_mv rfl)) ?_
    refine each_cons (do0 rfl [(487, 0)] rfl (wn rfl) fun w hS => (x_len rfl Yba.underlying66)) ?_
    refine each_cons (do0 rfl [(488, 1)] rfl (wn rfl) fun w hS => (x_bin rfl rfl (neq3F _ _ _ _ (by simp)))) ?_
    refine each_cons (do0 rfl [(489, 2)] rfl (wn rfl) fun w hS => (x_mv rfl)) ?_
    refine each_cons (do0 rfl [(490, 3)] rfl (wy rfl rfl rfl) fun w hS => (x_mv rfl)) ?_
    refine each_cons (do0 rfl [(491, 4), (490, 3)] rfl (wy rfl rfl rfl) fun w hS => (x_idx rfl rfl (idxS _ _ _ _ 0 _ Yba.underlying66 sz37 (by omega)))) ?_
    refine each_cons (do0 rfl [(492, 5), (490, 3)] rfl (wy rfl rfl rfl) fun w hS => (x_load rfl (run_loadAt_mid w g' (0 + 0 * 4) 37 (apC fr) _ (fun j u hj => by rw [hS.cell hglt]; rw [show 0 + 0 * 4 + j = j by omega]; exact hcl j u hj) Yba.underlying37 rfl info37))) ?_
    refine each_cons (do0 rfl [(490, 3)] rfl (wy rfl rfl rfl) fun w hS => (x_mv rfl)) ?_
    refine each_cons (do1 rfl [(494, 7), (490, 3)] rfl (wy rfl rfl rfl) fun w hS => (x_call (cap := []) rfl rfl c6 ((ap_of fr w).mono fun e w' h => ⟨h.1, hS.trans (h.2.mono hS.size)⟩))) ?_
    refine each_cons (do0 rfl [(493, 6), (495, 8), (490, 3)] rfl (wy rfl rfl rfl) fun w hS => (x_bin rfl rfl (by have := neq37 (.tmp 493) (.tmp 495) fr fr; rw [decide_eq_false (by simp)] at this; exact this))) ?_
    refine each_cons (do0 rfl [(490, 3), (496, 9)] rfl (wn rfl) fun w hS => (x_pick rfl rfl)) ?_
    exact each_nil
  intro a w5 hA h5
  refine n_th ?_
  refine cdfz hA rfl (n_in (n_th ?_))
  refine rg ?_
  refine st0 hA (wn rfl) rfl rfl (x_bin rfl rfl (add3N _ _ _ (by omega))) fun a hA => ?_
  refine st0 hA (wn rfl) rfl rfl (x_mv rfl) fun a hA => ?_
  exact fin0 (n_th ⟨m - 1, by omega, k + 1, by omega, hA.pick [22, 26, 475, 476, 477], (hc.trans c13).trans ((Chg.refl _ w3).drew.trans (Chg.F h5))⟩)
end Go.Proofs.Ybulkcrtu
