import Derived.Test.YbulkcrtuTF
namespace Go.Proofs.Ybulkcrtu
open Go.RowKit Go.ChangeMaps Go.MapKept

theorem cv3_24 (x : Int) (h0 : 0 ≤ x) (h1 : x ≤ 65535) : Cnv 3 24 (.int .i64 x) (.int .u16 x) := fun w => by
  simp [go_sem]
  rw [IntKind.wrap_u16]
  omega
theorem cv3_5 (x : Int) (h0 : 0 ≤ x) (h1 : x ≤ 255) : Cnv 3 5 (.int .i64 x) (.int .u8 x) := fun w => by
  simp [go_sem]
  rw [IntKind.wrap_u8]
  omega
theorem cv5_3 (x : Int) (h0 : 0 ≤ x) (h1 : x ≤ 255) : Cnv 5 3 (.int .u8 x) (.int .i64 x) := fun w => by
  simp [go_sem]
  rw [IntKind.wrap_i64]
  omega
theorem cv24_3 (x : Int) (h0 : 0 ≤ x) (h1 : x ≤ 65535) : Cnv 24 3 (.int .u16 x) (.int .i64 x) := fun w => by
  simp [go_sem]
  rw [IntKind.wrap_i64]
  omega
/-- The law's row of a map. -/
def enc (f : Ports) (k : Nat) : Int := (f k).getD (-1)
def Enc (w : World) (b : Nat) (f : Ports) : Prop := Row w b 50 256 (fun k => .int .i64 (enc f k))
def Good (f : Ports) : Prop := ∀ k q, f k = some q → 0 ≤ q ∧ q ≤ 9
theorem c10 : Callable 10 := ⟨_, Yba.func10, by kernel_rfl, rfl⟩
set_option maxRecDepth 100000 in
set_option maxHeartbeats 2000000 in
theorem check_any (b bm N : Nat) (f : Ports) (w : World) (hf : Good f) (hM : MapP w b N f) (hR : Enc w bm f) :
    Calls Yba.prog 10 #[.map (some b), .pointer (some ⟨bm, 0, none⟩)] w fun e w' => e = .returned (.bool true) ∧ Below w.heap.size w w' := by
  refine enter (args := [.map (some b), .pointer (some ⟨bm, 0, none⟩)]) Yba.func10 rfl 47 Yba.ntmps10 rfl fun a hA => ?_
  refine sq ?_
  refine st0 hA (wn rfl) rfl rfl (x_as rfl) fun a hA => ?_
  refine fin ?_
  refine sq ?_
  refine st0 hA (wn rfl) rfl rfl (x_as rfl) fun a hA => ?_
  refine fin ?_
  refine wp_seq ?_
  refine sq ?_
  refine st0 hA (wn rfl) rfl rfl (x_as rfl) fun a hA => ?_
  refine fin ?_
  refine lpb (fun m a w' => ∃ k : Nat, k + m = 256 ∧ At a 47 [(0, .map (some b)), (1, .pointer (some ⟨bm, 0, none⟩)), (5, .int .i64 (cntP f k : Nat)), (6, .int .i64 (k : Int))] ∧ Below w.heap.size w w') 256 ⟨0, by omega, hA.pick [0, 1, 5, 6], Below.refl _ _⟩ ?_
  rintro m a w1 ⟨k, hkm, hA, hB⟩
  have hM1 : MapP w1 b N f := MapK.below hM hB hM.lt
  have hR1 : Enc w1 bm f := Row.below hR hB hR.lt
  refine wp_seq ?_
  by_cases hlt : k < 256
  case neg =>
    have hkn : k = 256 := by omega
    subst hkn
    refine sq ?_
    refine st0 hA (wn rfl) rfl rfl (x_mv rfl) fun a hA => ?_
    refine st0 hA (wn rfl) rfl rfl (x_bin rfl rfl (lss3F _ _ _ _ (by omega))) fun a hA => ?_
    refine fin ?_
    refine cdfe hA rfl (x_th (xin (n_th ?_)))
    have hlen : ∃ w', Blt .len #[43] 3 #[false] #[.map (some b)] w1 (.int .i64 (cntP f 256 : Nat)) w' ∧ w' = w1 := by
      refine ⟨w1, ?_, rfl⟩
      unfold Blt
      simp only [builtin, Sem.run_bind, MapK.len hM1 Yba.underlying43 3, Result.andThen_ok, Sem.run_pure]
    refine sq ?_
    refine st0 hA (wn rfl) rfl rfl (x_mv rfl) fun a hA => ?_
    refine st0 hA (wn rfl) rfl rfl (x_blt rfl hlen) fun a hA => ?_
    refine st0 hA (wn rfl) rfl rfl (x_mv rfl) fun a hA => ?_
    refine st0 hA (wn rfl) rfl rfl (x_bin rfl rfl (eql3T _ _ _ _ rfl)) fun a hA => ?_
    refine st0 hA (wn rfl) rfl rfl (x_as rfl) fun a hA => ?_
    refine fin ?_
    exact wp_ret (rt hA rfl rfl ⟨rfl, hB⟩)
  have hk : k ≤ 255 := by omega
  refine sq ?_
  refine st0 hA (wn rfl) rfl rfl (x_mv rfl) fun a hA => ?_
  refine st0 hA (wn rfl) rfl rfl (x_bin rfl rfl (lss3T _ _ _ _ (by omega))) fun a hA => ?_
  refine fin ?_
  refine cdts hA rfl ?_
  refine cut (fun a' w' => At a' 47 [(0, .map (some b)), (1, .pointer (some ⟨bm, 0, none⟩)), (5, .int .i64 (cntP f (k + 1) : Nat)), (6, .int .i64 (k : Int))] ∧ Below w.heap.size w w') ?_ ?_
  · refine wp_block ?_
    refine sq ?_
    refine st0 hA (wn rfl) rfl rfl (x_mv rfl) fun a hA => ?_
    refine st0 hA (wn rfl) rfl rfl (x_mv rfl) fun a hA => ?_
    refine st0 hA (wn rfl) rfl rfl (x_cv rfl (cv3_5 _ (by omega) (by omega))) fun a hA => ?_
    refine st hA (wn rfl) rfl rfl (x_call (cap := []) rfl rfl c7 (key_any (k : Int) w1)) fun a w2 hA b2 => ?_
    have hM2 : MapP w2 b N f := MapK.below hM1 b2 hM1.lt
    have hR2 : Enc w2 bm f := Row.below hR1 b2 hR1.lt
    refine st0 hA (wn rfl) rfl rfl (x_look rfl rfl (hM2.look hk)) fun a hA => ?_
    refine st0 hA (wn rfl) rfl rfl (x_mv rfl) fun a hA => ?_
    refine st0 hA (wn rfl) rfl rfl (x_ext rfl rfl) fun a hA => ?_
    refine st0 hA (wn rfl) rfl rfl (x_ext rfl rfl) fun a hA => ?_
    obtain ⟨w3, hr3, m3⟩ := mk_alloc _ al37 w2
    obtain ⟨w4, hr4, u4, r4⟩ := m3.row.store (ty := 37) (o := 0) (apC ((f k).getD 0)) info37 (apC_one _) (Nat.le_refl _)
    refine st hA (wn rfl) rfl rfl (x_alloc ⟨w3, hr3, rfl⟩) fun a w3' hA e => ?_
    subst e
    refine stn hA (wn rfl) rfl (x_store rfl rfl ⟨w4, hr4, rfl⟩) fun w4' e => ?_
    subst e
    refine st0 hA (wn rfl) rfl rfl (x_as rfl) fun a hA => ?_
    refine fin ?_
    have b34 : Below w2.heap.size w2 w4 := m3.1.trans (u4.below (Nat.le_refl _))
    have hR4 : Enc w4 bm f := Row.below hR2 b34 hR2.lt
    have rv4 : Row w4 w2.heap.size 37 4 (fun i' => (apC ((f k).getD 0)).getD i' undef) := by
      refine r4.ext fun x hx => ?_
      have hx' : x < 4 := hx
      rw [if_pos (by simp only [apC, List.length_cons, List.length_nil]; omega)]
      rfl
    have hB4 : Below w.heap.size w w4 := (hB.trans (b2.mono hB.size)).trans (b34.mono (Nat.le_trans hB.size b2.size))
    refine wp_seq ?_
    refine sq ?_
    refine st0 hA (wn rfl) rfl rfl (x_mv rfl) fun a hA => ?_
    refine st0 hA (wn rfl) rfl rfl (x_mv rfl) fun a hA => ?_
    refine st0 hA (wn rfl) rfl rfl (x_nil rfl) fun a hA => ?_
    refine st0 hA (wn rfl) rfl rfl (x_idx rfl rfl (idxA _ _ _ _ Yba.underlying50 sz3 hlt)) fun a hA => ?_
    refine st0 hA (wn rfl) rfl rfl (x_load rfl (Row.load1 hR4 ag3 (by omega))) fun a hA => ?_
    have e0 : enc f (0 + k * 1) = enc f k := by rw [Nat.zero_add, Nat.mul_one]
    rw [e0] at hA
    cases hfk : f k with
    | none =>
      have he : enc f k = -1 := by unfold enc; rw [hfk]; rfl
      rw [he] at hA
      rw [hfk] at hA
      refine st0 hA (wn rfl) rfl rfl (x_bin rfl rfl (lss3T _ _ _ _ (by omega))) fun a hA => ?_
      refine fin ?_
      refine cdt hA rfl ?_
      refine wp_seq ?_
      refine sq ?_
      refine st0 hA (wn rfl) rfl rfl (x_mv rfl) fun a hA => ?_
      refine fin ?_
      refine cdfs hA rfl ?_
      refine wp_exit (x_th (xin (n_th ⟨?_, hB4⟩)))
      have : cntP f (k + 1) = cntP f k := by rw [cntP, hfk]; rfl
      rw [this]
      exact hA.pick [0, 1, 5, 6]
    | some q =>
      obtain ⟨q0, q9⟩ := hf k q hfk
      have he : enc f k = q := by unfold enc; rw [hfk]; rfl
      rw [he] at hA
      rw [hfk] at hA rv4
      have hen : ∀ w', Below w4.heap.size w4 w' → (Instr.loadAt 3 (.pointer (some ⟨bm, 0 + k * 1, none⟩))).run Yba.prog w' = .ok (.int .i64 q) w' := fun w' h => by
        have := Row.load1 (o := 0 + k * 1) (Row.below hR4 h hR4.lt) ag3 (by omega)
        rw [e0, he] at this
        exact this
      refine st0 hA (wn rfl) rfl rfl (x_bin rfl rfl (lss3F _ _ _ _ (by omega))) fun a hA => ?_
      refine fin ?_
      refine cdfs hA rfl ?_
      have hA : At a 47 [(0, .map (some b)), (1, .pointer (some ⟨bm, 0, none⟩)), (5, .int .i64 (cntP f k : Nat)), (6, .int .i64 (k : Int)), (7, .pointer (some ⟨w2.heap.size, 0, none⟩)), (8, .bool true)] := hA.pick [0, 1, 5, 6, 7, 8]
      refine wp_seq ?_
      refine wp_seq ?_
      refine drawn_keep [.bool true, .bool false, .bool false, apV q, .pointer (some ⟨bm, 0, none⟩), .int .i64 (k : Int), .pointer (some ⟨bm, 0, none⟩), .pointer (some ⟨bm, 0 + k * 1, none⟩), .int .i64 q, .int .u16 q, apV q, .bool false, .bool false] (fun w' => Below w4.heap.size w4 w') hA mixed (by kernel_rfl) (Below.refl _ _).drew ?_ ?_
      · refine each_cons (do0 rfl [] rfl (wn rfl) fun w hS => (x_mv rfl)) ?_
        refine each_cons (do0 rfl [(28, 0)] rfl (wn rfl) fun w hS => (x_not' rfl rfl)) ?_
        refine each_cons (do0 rfl [(29, 1)] rfl (wn rfl) fun w hS => (x_mv rfl)) ?_
        refine each_cons (do0 rfl [(30, 2)] rfl (wy rfl rfl rfl) fun w hS => (x_load rfl (row_ap (rv4.below hS rv4.lt)))) ?_
        refine each_cons (do0 rfl [(30, 2)] rfl (wy rfl rfl rfl) fun w hS => (x_mv rfl)) ?_
        refine each_cons (do0 rfl [(30, 2)] rfl (wy rfl rfl rfl) fun w hS => (x_mv rfl)) ?_
        refine each_cons (do0 rfl [(32, 4), (30, 2)] rfl (wy rfl rfl rfl) fun w hS => (x_nil rfl)) ?_
        refine each_cons (do0 rfl [(34, 6), (33, 5), (30, 2)] rfl (wy rfl rfl rfl) fun w hS => (x_idx rfl rfl (idxA _ _ _ _ Yba.underlying50 sz3 hlt))) ?_
        refine each_cons (do0 rfl [(35, 7), (30, 2)] rfl (wy rfl rfl rfl) fun w hS => (x_load rfl (hen w hS))) ?_
        refine each_cons (do0 rfl [(36, 8), (30, 2)] rfl (wy rfl rfl rfl) fun w hS => (x_cv rfl (cv3_24 _ (by omega) (by omega)))) ?_
        refine each_cons (do1 rfl [(37, 9), (30, 2)] rfl (wy rfl rfl rfl) fun w hS => (x_call (cap := []) rfl rfl c6 ((ap_of q w).mono fun e w' h => ⟨h.1, hS.trans (h.2.mono hS.size)⟩))) ?_
        refine each_cons (do0 rfl [(31, 3), (38, 10), (30, 2)] rfl (wy rfl rfl rfl) fun w hS => (x_bin rfl rfl (by have := neq37 (.tmp 31) (.tmp 38) q q; rw [decide_eq_false (by simp)] at this; exact this))) ?_
        refine each_cons (do0 rfl [(30, 2), (39, 11)] rfl (wn rfl) fun w hS => (x_pick rfl rfl)) ?_
        exact each_nil
      intro a w5 hA h5
      refine n_th ?_
      refine cdfs hA rfl ?_
      refine rg ?_
      refine st0 hA (wn rfl) rfl rfl (x_mv rfl) fun a hA => ?_
      refine st0 hA (wn rfl) rfl rfl (x_bin rfl rfl (add3N _ _ _ (by have : ∀ m, cntP f m ≤ m := (fun m => by induction m with | zero => exact Nat.le_refl _ | succ m ih => unfold cntP; cases (f m).isSome <;> simp <;> omega); have := this k; omega))) fun a hA => ?_
      refine st0 hA (wn rfl) rfl rfl (x_as rfl) fun a hA => ?_
      refine fin0 (n_in (n_th ⟨?_, hB4.trans (h5.mono hB4.size)⟩))
      have : cntP f (k + 1) = cntP f k + 1 := by rw [cntP, hfk]; rfl
      rw [this]
      exact hA.pick [0, 1, 5, 6]
  rintro a w6 ⟨hA, hB6⟩
  refine rg ?_
  refine st0 hA (wn rfl) rfl rfl (x_mv rfl) fun a hA => ?_
  refine st0 hA (wn rfl) rfl rfl (x_bin rfl rfl (add3N _ _ _ (by omega))) fun a hA => ?_
  refine st0 hA (wn rfl) rfl rfl (x_as rfl) fun a hA => ?_
  exact fin0 (n_th ⟨m - 1, by omega, k + 1, by omega, hA.pick [0, 1, 5, 6], hB6⟩)
end Go.Proofs.Ybulkcrtu
