import Derived.Test.YbulkcrtuSO
namespace Go.Proofs.Ybulkcrtu
open Go.RowKit Go.ChangeMaps Go.MapKept

/-- The slice v holds the addresses of the ports xs. -/
def Aps (w : World) (v : Value) (xs : List Int) : Prop := ∃ p c, v = .slice p xs.length c ∧ ∀ k x, xs[k]? = some x → ∃ b, p = some ⟨b, 0, none⟩ ∧ b < w.heap.size ∧ ∀ j u, (apC x)[j]? = some u → w.cell? ⟨b, k * 4 + j, none⟩ = some u
theorem Aps.below {w w' : World} {v : Value} {xs : List Int} (h : Aps w v xs) (hb : Below w.heap.size w w') : Aps w' v xs := by
  obtain ⟨p, c, h1, h2⟩ := h
  refine ⟨p, c, h1, fun k x hk => ?_⟩
  obtain ⟨b, h3, h4, h5⟩ := h2 k x hk
  exact ⟨b, h3, Nat.lt_of_lt_of_le h4 hb.size, fun j u hj => by rw [hb.cell h4]; exact h5 j u hj⟩
theorem Aps.of_own {w : World} {base n : Nat} {v : Value} {p : Int} (h : w.ownsRow base 37 4 v n (apC p)) : Aps w v [p] := by
  obtain ⟨h1, ⟨rfl, rfl⟩ | ⟨g, cap, cur, rfl, h3, h4, _, _, _, h6⟩⟩ := h
  · simp [apC] at h1
  · have hn : n = 1 := by simp [apC] at h1; omega
    subst hn
    refine ⟨_, cap, rfl, fun k x hk => ?_⟩
    have hk0 : k = 0 := by have := (List.getElem?_eq_some_iff.1 hk).1; simp at this; exact this
    subst hk0
    simp at hk
    subst hk
    refine ⟨g, rfl, (Array.getElem?_eq_some_iff.1 h4).1, fun j u hj => ?_⟩
    simp only [World.cell?, h4]
    rw [← h6, List.getElem?_take] at hj
    simp only [Nat.zero_mul, Nat.zero_add, Option.isSome_none, Bool.false_eq_true, if_false]
    split at hj
    · simpa using hj
    · cases hj
theorem c24 : Callable 24 := ⟨_, Yba.func24, by kernel_rfl, rfl⟩
theorem c40 : Callable 40 := ⟨_, Yba.func40, by kernel_rfl, rfl⟩
theorem row_ap {w : World} {b t : Nat} {p : Int} (h : Row w b t 4 (fun i => (apC p).getD i undef)) : (Instr.loadAt 37 (.pointer (some ⟨b, 0, none⟩))).run Yba.prog w = .ok (apV p) w :=
  h.load (apC p) Yba.underlying37 rfl info37 fun j v hj => ⟨by have := lt_cells hj; simp only [apC, List.length_cons, List.length_nil] at this; omega, by rw [Nat.zero_add]; exact getD_cells hj⟩
set_option maxRecDepth 100000 in
theorem index_ap (q : Int) (v : Value) (xs : List Int) (w : World) (hlen : xs.length ≤ 500) (hv : Aps w v xs) :
    Calls Yba.prog 40 #[v, apV q] w fun e w' => (∃ r : Int, e = .returned (.int .i64 r) ∧ decide (r ≥ 0) = xs.any (fun o => decide (q = o))) ∧ Below w.heap.size w w' := by
  refine enter (args := [v, apV q]) Yba.func40 rfl 19 Yba.ntmps40 rfl fun a hA => ?_
  refine sq ?_
  refine st hA (wn rfl) rfl rfl (x_box rfl (mk_box (apC q) _)) fun a w1 hA m1 => ?_
  refine st0 hA (wn rfl) rfl rfl (x_as rfl) fun a hA => ?_
  refine fin ?_
  have hv1 := hv.below m1.1
  have r1 : Row w1 w.heap.size 37 4 (fun i => (apC q).getD i undef) := m1.row
  have hB1 := m1.1
  have hs1 : w.heap.size ≤ w1.heap.size := m1.1.size
  generalize w.heap.size = bq at *
  refine wp_seq ?_
  obtain ⟨p, c, rfl, _⟩ := id hv1
  refine sq ?_
  refine st0 hA (wn rfl) rfl rfl (x_mv rfl) fun a hA => ?_
  refine st0 hA (wn rfl) rfl rfl (x_len rfl Yba.underlying66) fun a hA => ?_
  refine st0 hA (wn rfl) rfl rfl (x_mv rfl) fun a hA => ?_
  refine fin ?_
  refine lpb (fun m a w' => ∃ k : Nat, k + m = xs.length ∧ At a 19 [(0, .slice p xs.length c), (3, .pointer (some ⟨bq, 0, none⟩)), (6, .slice p xs.length c), (7, .int .i64 xs.length), (8, .int .i64 k)] ∧ Below w1.heap.size w1 w' ∧ ∀ j x, j < k → xs[j]? = some x → ¬ q = x) xs.length ⟨0, by omega, hA.pick [0, 3, 6, 7, 8], Below.refl _ _, fun j x h => by omega⟩ ?_
  rintro m a w2 ⟨k, hk, hA, hB, hno⟩
  by_cases hlt : k < xs.length
  · refine sq ?_
    refine st0 hA (wn rfl) rfl rfl (x_bin rfl rfl (lss3T _ _ _ _ (by omega))) fun a hA => ?_
    refine fin ?_
    refine sqts hA rfl ?_
    refine sqb ?_
    refine sq ?_
    refine st0 hA (wn rfl) rfl rfl (x_mv rfl) fun a hA => ?_
    refine st0 hA (wn rfl) rfl rfl (x_as rfl) fun a hA => ?_
    refine fin ?_
    obtain ⟨x, hxk⟩ : ∃ x, xs[k]? = some x := ⟨_, List.getElem?_eq_getElem hlt⟩
    obtain ⟨p', c', he, hcl⟩ := hv1.below hB
    obtain ⟨b, hp, _, hcell⟩ := hcl k x hxk
    simp only [Value.slice.injEq] at he
    obtain ⟨rfl, _, rfl⟩ := he
    subst hp
    have r2 : Row w2.drew bq 37 4 (fun i => (apC q).getD i undef) := r1.below hB.drew r1.lt
    have hl2 : (Instr.loadAt 37 (.pointer (some ⟨b, 0 + k * 4, none⟩))).run Yba.prog w2.drew = .ok (apV x) w2.drew :=
      run_loadAt_mid w2.drew b (0 + k * 4) 37 (apC x) _ (fun j v hj => by rw [Nat.zero_add]; exact hcell j v hj) Yba.underlying37 rfl info37
    refine wp_seq ?_
    by_cases hq : q = x
    · refine drawn_keep [apV q, .slice (some ⟨b, 0, none⟩) xs.length c, .int .i64 k, .pointer (some ⟨b, 0 + k * 4, none⟩), apV x, .bool true] (· = w2.drew) (hA.pick [0, 3, 5, 6, 7, 8]) mixed rfl rfl ?_ ?_
      · refine each_cons (do0 rfl [] rfl (wn rfl) fun w hS => (x_load rfl (by subst hS; exact row_ap r2))) ?_
        refine each_cons (do0 rfl [] rfl (wn rfl) fun w hS => (x_mv rfl)) ?_
        refine each_cons (do0 rfl [] rfl (wn rfl) fun w hS => (x_mv rfl)) ?_
        refine each_cons (do0 rfl [(12, 1), (13, 2)] rfl (wn rfl) fun w hS => (x_idx rfl rfl (idxS _ _ _ _ _ _ Yba.underlying66 sz37 hlt))) ?_
        refine each_cons (do0 rfl [(14, 3)] rfl (wn rfl) fun w hS => (x_load rfl (by subst hS; exact hl2))) ?_
        refine each_cons (do0 rfl [(11, 0), (15, 4)] rfl (wn rfl) fun w hS => (x_bin rfl rfl (by have := eql37 (.tmp 11) (.tmp 15) q x; rw [decide_eq_true hq] at this; exact this))) ?_
        exact each_nil
      intro a w3 hA e3
      subst e3
      refine n_th ?_
      refine cdt hA rfl ?_
      refine sq ?_
      refine st0 hA (wn rfl) rfl rfl (x_mv rfl) fun a hA => ?_
      refine st0 hA (wn rfl) rfl rfl (x_as rfl) fun a hA => ?_
      refine fin ?_
      refine wp_ret (r_in (r_th (r_th (r_in (r_th ?_)))))
      refine rt hA rfl rfl ⟨⟨k, rfl, ?_⟩, hB1.trans (hB.drew.mono hs1)⟩
      have : xs.any (fun o => decide (q = o)) = true := List.any_eq_true.2 ⟨x, List.mem_of_getElem? hxk, by simpa using hq⟩
      rw [this]
      simp
    · refine drawn_keep [apV q, .slice (some ⟨b, 0, none⟩) xs.length c, .int .i64 k, .pointer (some ⟨b, 0 + k * 4, none⟩), apV x, .bool false] (· = w2.drew) (hA.pick [0, 3, 5, 6, 7, 8]) mixed rfl rfl ?_ ?_
      · refine each_cons (do0 rfl [] rfl (wn rfl) fun w hS => (x_load rfl (by subst hS; exact row_ap r2))) ?_
        refine each_cons (do0 rfl [] rfl (wn rfl) fun w hS => (x_mv rfl)) ?_
        refine each_cons (do0 rfl [] rfl (wn rfl) fun w hS => (x_mv rfl)) ?_
        refine each_cons (do0 rfl [(12, 1), (13, 2)] rfl (wn rfl) fun w hS => (x_idx rfl rfl (idxS _ _ _ _ _ _ Yba.underlying66 sz37 hlt))) ?_
        refine each_cons (do0 rfl [(14, 3)] rfl (wn rfl) fun w hS => (x_load rfl (by subst hS; exact hl2))) ?_
        refine each_cons (do0 rfl [(11, 0), (15, 4)] rfl (wn rfl) fun w hS => (x_bin rfl rfl (by have := eql37 (.tmp 11) (.tmp 15) q x; rw [decide_eq_false hq] at this; exact this))) ?_
        exact each_nil
      intro a w3 hA e3
      subst e3
      refine n_th ?_
      refine cdfz hA rfl (n_in (n_th ?_))
      refine rg ?_
      refine st0 hA (wn rfl) rfl rfl (x_bin rfl rfl (add3 _ _ _ _ (by omega) (by omega))) fun a hA => ?_
      refine st0 hA (wn rfl) rfl rfl (x_mv rfl) fun a hA => ?_
      refine fin0 ?_
      refine ⟨m - 1, by omega, k + 1, by omega, hA.pick [0, 3, 6, 7, 8], hB.drew, fun j y hj hy => ?_⟩
      by_cases e : j = k
      · subst e
        rw [hxk] at hy
        obtain rfl := Option.some.inj hy
        exact hq
      · exact hno j y (by omega) hy
  · refine sq ?_
    refine st0 hA (wn rfl) rfl rfl (x_bin rfl rfl (lss3F _ _ _ _ (by omega))) fun a hA => ?_
    refine fin ?_
    refine sqfe hA rfl ?_
    refine x_th (xin (n_th ?_))
    refine sq ?_
    refine st0 hA (wn rfl) rfl rfl (x_as rfl) fun a hA => ?_
    refine fin ?_
    refine wp_ret (rt hA rfl rfl ⟨⟨-1, rfl, ?_⟩, hB1.trans (hB.mono hs1)⟩)
    have : xs.any (fun o => decide (q = o)) = false := by
      rw [List.any_eq_false]
      intro x hxm
      obtain ⟨j, hj⟩ := List.getElem?_of_mem hxm
      have := hno j x (by have := (List.getElem?_eq_some_iff.1 hj).1; omega) hj
      simpa using this
    rw [this]
    rfl
set_option maxRecDepth 100000 in
theorem has_ap (q : Int) (v : Value) (xs : List Int) (w : World) (hlen : xs.length ≤ 500) (hv : Aps w v xs) :
    Calls Yba.prog 24 #[v, apV q] w fun e w' => e = .returned (.bool (xs.any (fun o => decide (q = o)))) ∧ Below w.heap.size w w' := by
  refine enter (args := [v, apV q]) Yba.func24 rfl 9 Yba.ntmps24 rfl fun a hA => ?_
  refine sq ?_
  refine st hA (wn rfl) rfl rfl (x_box rfl (mk_box (apC q) _)) fun a w1 hA m1 => ?_
  refine st0 hA (wn rfl) rfl rfl (x_as rfl) fun a hA => ?_
  refine fin ?_
  have hc := index_ap q v xs w1 hlen (hv.below m1.1)
  refine sq ?_
  refine st0 hA (wn rfl) rfl rfl (x_mv rfl) fun a hA => ?_
  refine st0 hA (wn rfl) rfl rfl (x_load rfl (row_ap m1.row)) fun a hA => ?_
  refine st_call (cap := []) (T := fun u w' => (∃ r : Int, u = .int .i64 r ∧ decide (r ≥ 0) = xs.any (fun o => decide (q = o))) ∧ Below w1.heap.size w1 w') hA (wn rfl) rfl rfl rfl rfl c40 (hc.mono ?_) fun a w2 u hA T1 => ?_
  · rintro e w' ⟨⟨r, h1, h2⟩, h3⟩
    exact ⟨_, h1, ⟨r, rfl, h2⟩, h3⟩
  obtain ⟨⟨r, rfl, hr'⟩, hB⟩ := T1
  refine st0 hA (wn rfl) rfl rfl (x_bin rfl rfl (geq3 _ _ _ _)) fun a hA => ?_
  refine st0 hA (wn rfl) rfl rfl (x_as rfl) fun a hA => ?_
  refine fin ?_
  refine wp_ret (rt hA rfl rfl ⟨?_, m1.1.trans (hB.mono m1.1.size)⟩)
  rw [hr']
end Go.Proofs.Ybulkcrtu
