import Derived.Test.YbulkcrtuTC
namespace Go.Proofs.Ybulkcrtu
open Go.RowKit Go.ChangeMaps Go.MapKept

theorem ints_of_own {w : World} {base n : Nat} {v : Value} {l : List Nat} (h : w.ownsRow base 3 1 v n (intsC l)) : ∃ kp kc, v = .slice kp l.length kc ∧ Ints w v (l.map fun (x : Nat) => (x : Int)) := by
  have hn : l.length = n := by have := h.1; simpa [intsC] using this
  obtain ⟨_, ⟨rfl, h0⟩ | ⟨g, cap, cur, rfl, h3, h4, _, _, _, h6⟩⟩ := h
  · have : l = [] := List.eq_nil_of_length_eq_zero (by omega)
    subst this
    exact ⟨none, 0, rfl, none, 0, rfl, fun k x hk => by simp at hk⟩
  · subst hn
    refine ⟨_, cap, rfl, _, cap, by rw [List.length_map], fun k x hk => ?_⟩
    refine ⟨g, 0, rfl, ?_⟩
    simp only [World.cell?, h4, Option.isSome_none, Bool.false_eq_true, if_false, Nat.zero_add]
    have : (intsC l)[k]? = some (.int .i64 x) := by
      unfold intsC
      rw [List.getElem?_map] at hk ⊢
      cases hl : l[k]? with
      | none => rw [hl] at hk; simp at hk
      | some y =>
        rw [hl] at hk
        simp only [Option.map_some, Option.some.injEq] at hk ⊢
        rw [← hk]
    rw [← h6, List.getElem?_take] at this
    split at this
    · simpa using this
    · cases this
theorem LinkM.keep_nil {w w' : World} {b n : Nat} {fr : Int} (h : LinkM w b n 0 [] fr) {X : Nat → Prop} (hc : Chg X w w') (hx : ¬ X b) : LinkM w' b n 0 [] fr := by
  obtain ⟨m, h1, h2, h3⟩ := h
  refine ⟨m, h1.chg hc hx, h2, fun q v hq1 hq2 hq => ?_⟩
  have := (h2 q hq1 hq2).1 (by rw [hq]; rfl)
  cases this
set_option maxRecDepth 100000 in
set_option maxHeartbeats 2000000 in
/-- The third loop, and what follows it. -/
theorem take3 (bL bF bw bn bR bV n nl N : Nat) (p : LkP) (fr : Int) (whole : Bool) (rs : Nat → Nat × Nat) (d : Nat → Bool) (v : Nat → Bool) (s : TS) (R : Ending → World → Prop)
    (hn : n ≤ 300) (hnl : nl ≤ 1000) (hN : N ≤ 400) (hrs : ∀ i, i < n → (rs i).1 ≤ 255 ∧ 1 ≤ (rs i).2 ∧ (rs i).2 ≤ 4) (hlo : p.lo ≤ 255) (hwd : p.wd ≤ 255) (hAp : Apart p) (hs : s.kept = [])
    (a : Act) (w : World) (hA : At a 255 [(0, .pointer (some ⟨bL, 0, none⟩)), (5, .pointer (some ⟨bF, 0, none⟩)), (8, .slice (some ⟨bR, 0, none⟩) n n), (9, .pointer (some ⟨bw, 0, none⟩)), (10, .pointer (some ⟨bn, 0, none⟩)), (15, .slice (some ⟨bV, 0, none⟩) n n)])
    (hE : Env w bL bF bw bn bR n p fr whole rs) (hV : Row w bV 4 n (fun i => .bool (v i))) (hD : IsDead w p.dead d) (hk : MapP w p.known N s.f) (hb : MapP w p.shown N s.g) (hu : MapP w p.unheard N s.u) (hM : LinkM w p.linked nl 0 [] fr)
    (hR : ∀ w', Chg (fun b => X3 p b ∨ b = p.linked) w w' → MapP w' p.known (N + n) (runR (ctxOf p d fr) rs s n).f → MapP w' p.shown (N + n) (runR (ctxOf p d fr) rs s n).g → MapP w' p.unheard (N + n) (runR (ctxOf p d fr) rs s n).u →
      LinkM w' p.linked (nl + (runR (ctxOf p d fr) rs s n).kept.length) 0 (runL v n whole (runR (ctxOf p d fr) rs s n).kept (fun i => (rs i).1) (runR (ctxOf p d fr) rs s n).kept.length) fr → R (.returned (.tuple #[])) w') :
    (dropS 8 (Yba.f9.body.getD .skip)).wp Yba.prog (bodyPost Yba.prog Yba.f9 R) a w := by
  have hrowx : ∀ b t m g, Row w b t m g → ¬ X3 p b := fun b t m g h e => e.elim (row_ne_map h hk.map) fun e => e.elim (row_ne_map h hb.map) (row_ne_map h hu.map)
  refine sq ?_
  refine st0 hA (wn rfl) rfl rfl (x_as rfl) fun a hA => ?_
  refine fin ?_
  refine wp_seq ?_
  refine sq ?_
  refine st0 hA (wn rfl) rfl rfl (x_mv rfl) fun a hA => ?_
  refine st0 hA (wn rfl) rfl rfl (x_len rfl Yba.underlying53) fun a hA => ?_
  refine st0 hA (wn rfl) rfl rfl (x_mv rfl) fun a hA => ?_
  refine fin ?_
  refine lpb (fun m a w' => ∃ (k : Nat) (kv : Value), k + m = n ∧ At a 255 [(0, .pointer (some ⟨bL, 0, none⟩)), (5, .pointer (some ⟨bF, 0, none⟩)), (8, .slice (some ⟨bR, 0, none⟩) n n), (9, .pointer (some ⟨bw, 0, none⟩)), (10, .pointer (some ⟨bn, 0, none⟩)), (15, .slice (some ⟨bV, 0, none⟩) n n), (17, kv), (71, .slice (some ⟨bR, 0, none⟩) n n), (72, .int .i64 (n : Int)), (73, .int .i64 (k : Int))] ∧
    Cur w w' p (N + k) (runR (ctxOf p d fr) rs s k) kv) n ⟨0, .slice none 0 0, by omega, hA.pick [0, 5, 8, 9, 10, 15, 17, 71, 72, 73], ?_⟩ ?_
  · refine ⟨Chg.refl _ _, hk, hb, hu, ?_⟩
    show w.ownsRow w.heap.size 3 1 (.slice none 0 0) s.kept.length (intsC s.kept)
    rw [hs]
    exact World.ownsRow_nil w _ _ _
  rintro m a w1 ⟨k, kv, hkm, hA, hcur⟩
  by_cases hlt : k < n
  case neg =>
    have hkn : k = n := by omega
    subst hkn
    refine sq ?_
    refine st0 hA (wn rfl) rfl rfl (x_bin rfl rfl (lss3F _ _ _ _ (by omega))) fun a hA => ?_
    refine fin ?_
    refine sqfe hA rfl ?_
    refine x_th (xin (n_th ?_))
    obtain ⟨h1, h2⟩ := runR_kept (ctxOf p d fr) rs s hs k
    obtain ⟨kp, kc, rfl, hI⟩ := ints_of_own hcur.kept
    refine take4 bL bF bw bn bR bV k nl p fr whole rs v _ kp kc R hn hnl (fun i hi => (hrs i hi).1) h1 h2 a w1 (hA.pick [0, 5, 8, 9, 10, 15, 17]) (hE.keep hcur.chg hrowx) (hV.chg hcur.chg (hrowx _ _ _ _ hV)) hI (hM.keep_nil hcur.chg (fun e => e.elim (fun e => hAp.kl e.symm) fun e => e.elim (fun e => hAp.bl e.symm) fun e => hAp.ul e.symm)) fun w' hc hl => ?_
    refine hR w' ((hcur.chg.mono fun _ _ h => .inl h).comp hc fun _ _ h => .inr h) (hcur.known.chg hc hAp.kl) (hcur.shownBy.chg hc hAp.bl) (hcur.unheard.chg hc hAp.ul) hl
  obtain ⟨h1, h2⟩ := runR_kept (ctxOf p d fr) rs s hs k
  obtain ⟨r1, r2, r3⟩ := hrs k hlt
  refine sq ?_
  refine st0 hA (wn rfl) rfl rfl (x_bin rfl rfl (lss3T _ _ _ _ (by omega))) fun a hA => ?_
  refine fin ?_
  refine sqts hA rfl ?_
  refine cut (fun a' w' => ∃ kv', At a' 255 [(0, .pointer (some ⟨bL, 0, none⟩)), (5, .pointer (some ⟨bF, 0, none⟩)), (8, .slice (some ⟨bR, 0, none⟩) n n), (9, .pointer (some ⟨bw, 0, none⟩)), (10, .pointer (some ⟨bn, 0, none⟩)), (15, .slice (some ⟨bV, 0, none⟩) n n), (17, kv'), (71, .slice (some ⟨bR, 0, none⟩) n n), (72, .int .i64 (n : Int)), (73, .int .i64 (k : Int))] ∧ Cur w w' p (N + k + 1) (runR (ctxOf p d fr) rs s (k + 1)) kv') ?_ ?_
  · refine wp_block ?_
    exact iter3 bL bF bw bn bR bV n (N + k) k p fr whole rs d (runR (ctxOf p d fr) rs s k) kv _ _ hn (by omega) hlt hlo hwd r1 ⟨r2, r3⟩ h2 hAp a w w1 (hA.pick [0, 5, 8, 9, 10, 15, 17, 71, 72, 73]) hE hD hrowx hcur (fun a' w' kv' h3 h4 => ⟨kv', h3, h4⟩)
  rintro a w2 ⟨kv', hA, hcur'⟩
  refine rg ?_
  refine st0 hA (wn rfl) rfl rfl (x_bin rfl rfl (add3N _ _ _ (by omega))) fun a hA => ?_
  refine st0 hA (wn rfl) rfl rfl (x_mv rfl) fun a hA => ?_
  exact fin0 (n_th ⟨m - 1, by omega, k + 1, kv', by omega, hA.pick [0, 5, 8, 9, 10, 15, 17, 71, 72, 73], hcur'⟩)
end Go.Proofs.Ybulkcrtu
