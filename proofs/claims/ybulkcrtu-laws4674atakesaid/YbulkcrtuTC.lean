import Derived.Test.YbulkcrtuTB
namespace Go.Proofs.Ybulkcrtu
open Go.RowKit Go.ChangeMaps Go.MapKept

def sub : List Nat → Code → Code
  | [], c => c
  | 0 :: r, .seq a _ => sub r a
  | 1 :: r, .seq _ b => sub r b
  | 0 :: r, .cond _ x _ => sub r x
  | 1 :: r, .cond _ _ y => sub r y
  | _ :: r, .block _ c => sub r c
  | _ :: r, .loop c => sub r c
  | _, c => c
def X3 (p : LkP) (b : Nat) : Prop := b = p.known ∨ b = p.shown ∨ b = p.unheard
/-- The maps are not one another. -/
structure Apart (p : LkP) : Prop where
  kb : p.known ≠ p.shown
  ku : p.known ≠ p.unheard
  kd : p.known ≠ p.dead
  kl : p.known ≠ p.linked
  bu : p.shown ≠ p.unheard
  bd : p.shown ≠ p.dead
  bl : p.shown ≠ p.linked
  ud : p.unheard ≠ p.dead
  ul : p.unheard ≠ p.linked
def intsC (l : List Nat) : List Value := l.map fun (x : Nat) => Value.int .i64 (x : Int)
/-- Where take stands in its third loop: w the world at the loop's start, w' the world now. -/
structure Cur (w w' : World) (p : LkP) (N : Nat) (s : TS) (kv : Value) : Prop where
  chg : Chg (X3 p) w w'
  known : MapP w' p.known N s.f
  shownBy : MapP w' p.shown N s.g
  unheard : MapP w' p.unheard N s.u
  kept : w'.ownsRow w.heap.size 3 1 kv s.kept.length (intsC s.kept)
theorem Cur.keep {w w' w'' : World} {p : LkP} {N : Nat} {s : TS} {kv : Value} (h : Cur w w' p N s kv) (hc : Chg (fun _ => False) w' w'') : Cur w w'' p N s kv :=
  ⟨h.chg.comp hc fun _ _ e => e.elim, h.known.chg hc id, h.shownBy.chg hc id, h.unheard.chg hc id, owns_keep h.kept hc fun _ _ => id⟩
theorem Cur.mono {w w' : World} {p : LkP} {N M : Nat} {s : TS} {kv : Value} (h : Cur w w' p N s kv) (hN : N ≤ M) : Cur w w' p M s kv := ⟨h.chg, h.known.mono hN, h.shownBy.mono hN, h.unheard.mono hN, h.kept⟩
def ctxOf (p : LkP) (d : Nat → Bool) (fr : Int) : Ctx := { lo := p.lo, wd := p.wd, placing := decide (p.purpose = 1), dead := d, self := p.self, from' := fr }
theorem Chg.F {w w' : World} (h : Below w.heap.size w w') : Chg (fun _ => False) w w' := Chg.of_below h
theorem x_not' {l : List (Nat × Value)} {w : World} {dz : Option Tmp} {ty : TypeId} {pz : String} {af : Array Edge} {gz : Option (Nat × Bool)} {t : TypeId} {x : Operand} {b b' : Bool} (hx : ev l x = some (.bool b)) (hb : (!b) = b') : Goes l ⟨dz, .unOp .not t x, ty, pz, af, gz⟩ w (.bool b') (· = w) := by
  subst hb
  exact x_not hx
theorem owns_slice {w : World} {base e size n : Nat} {v : Value} {xs : List Value} (h : w.ownsRow base e size v n xs) : ∃ q c, v = .slice q n c := by
  obtain ⟨_, ⟨rfl, rfl⟩ | ⟨g, cap, cur, rfl, _⟩⟩ := h
  · exact ⟨none, 0, rfl⟩
  · exact ⟨_, _, rfl⟩
set_option maxRecDepth 100000 in
set_option maxHeartbeats 2000000 in
/-- One route. -/
theorem iter3 (bL bF bw bn bR bV n N k : Nat) (p : LkP) (fr : Int) (whole : Bool) (rs : Nat → Nat × Nat) (d : Nat → Bool) (s : TS) (kv : Value) (K : Act → World → Prop) (Q : Exit → Act → World → Prop)
    (hn : n ≤ 300) (hN : N ≤ 1000) (hk : k < n) (hlo : p.lo ≤ 255) (hwd : p.wd ≤ 255) (hK : (rs k).1 ≤ 255) (hP : 1 ≤ (rs k).2 ∧ (rs k).2 ≤ 4) (hlen : s.kept.length ≤ k) (hAp : Apart p)
    (a : Act) (w w1 : World) (hA : At a 255 [(0, .pointer (some ⟨bL, 0, none⟩)), (5, .pointer (some ⟨bF, 0, none⟩)), (8, .slice (some ⟨bR, 0, none⟩) n n), (9, .pointer (some ⟨bw, 0, none⟩)), (10, .pointer (some ⟨bn, 0, none⟩)), (15, .slice (some ⟨bV, 0, none⟩) n n), (17, kv), (71, .slice (some ⟨bR, 0, none⟩) n n), (72, .int .i64 (n : Int)), (73, .int .i64 (k : Int))])
    (hE : Env w bL bF bw bn bR n p fr whole rs) (hD : IsDead w p.dead d) (hrowx : ∀ b t m g, Row w b t m g → ¬ X3 p b) (hcur : Cur w w1 p N s kv)
    (hdone : ∀ a' w' kv', At a' 255 [(0, .pointer (some ⟨bL, 0, none⟩)), (5, .pointer (some ⟨bF, 0, none⟩)), (8, .slice (some ⟨bR, 0, none⟩) n n), (9, .pointer (some ⟨bw, 0, none⟩)), (10, .pointer (some ⟨bn, 0, none⟩)), (15, .slice (some ⟨bV, 0, none⟩) n n), (17, kv'), (71, .slice (some ⟨bR, 0, none⟩) n n), (72, .int .i64 (n : Int)), (73, .int .i64 (k : Int))] → Cur w w' p (N + 1) (stepR (ctxOf p d fr) s k (rs k).1 (rs k).2) kv' → K a' w') :
    (sub [1, 1, 1, 1, 1, 1, 1, 1, 1, 0, 1, 2, 2, 1, 1, 0, 2] (Yba.f9.body.getD .skip)).wp Yba.prog (Exit.inBlock 5 (Exit.then K Q)) a w1 := by
  have hE' : ∀ w', Chg (X3 p) w w' → Env w' bL bF bw bn bR n p fr whole rs := fun w' h => hE.keep h hrowx
  have hD' : ∀ w', Chg (X3 p) w w' → IsDead w' p.dead d := fun w' h => hD.chg h (fun e => e.elim (fun e => hAp.kd e.symm) fun e => e.elim (fun e => hAp.bd e.symm) fun e => hAp.ud e.symm)
  generalize hkey : (rs k).1 = key at *
  generalize hport : (rs k).2 = port at *
  have hE1 := hE' w1 hcur.chg
  have hrt := hE1.routes.route hk
  rw [hkey, hport] at hrt
  obtain ⟨w2, hr2, m2⟩ := mk_alloc _ al55 w1
  have hs2 : w2.heap.size = w1.heap.size + 1 := m2.2.1
  obtain ⟨w3, hr3, u3, r3⟩ := m2.row.store (ty := 55) (o := 0) (routeC key port) (by rw [routeC_len]; exact info55) (routeC_one _ _) (by rw [routeC_len]; exact Nat.le_refl _)
  have c13 : Chg (fun _ => False) w1 w3 := (Chg.F m2.1).comp (Chg.of_up (X := (· = w1.heap.size)) u3 rfl) fun x hx e => by
    have : x = w1.heap.size := e
    omega
  have rr3 : Row w3 w1.heap.size 55 36 (fun i' => (routeC key port).getD i' undef) := by
    refine r3.ext fun x hx => ?_
    have hx' : x < 36 := hx
    rw [if_pos (by rw [routeC_len]; omega)]
    rfl
  refine sq ?_
  refine st0 hA (wn rfl) rfl rfl (x_mv rfl) fun a hA => ?_
  refine st0 hA (wn rfl) rfl rfl (x_idx rfl rfl (idxS _ _ _ _ _ _ Yba.underlying53 sz55 hk)) fun a hA => ?_
  refine st0 hA (wn rfl) rfl rfl (x_load rfl hrt) fun a hA => ?_
  refine st hA (wn rfl) rfl rfl (x_alloc ⟨w2, hr2, rfl⟩) fun a w2' hA e => ?_
  subst e
  refine st0 hA (wn rfl) rfl rfl (x_as rfl) fun a hA => ?_
  refine stn hA (wn rfl) rfl (x_store rfl rfl ⟨w3, hr3, rfl⟩) fun w3' e => ?_
  subst e
  refine fin ?_
  have cur3 := hcur.keep c13
  generalize hb19 : w1.heap.size = b19 at *
  -- placing
  refine cut (fun a' w' => (At a' 255 [(0, .pointer (some ⟨bL, 0, none⟩)), (5, .pointer (some ⟨bF, 0, none⟩)), (8, .slice (some ⟨bR, 0, none⟩) n n), (9, .pointer (some ⟨bw, 0, none⟩)), (10, .pointer (some ⟨bn, 0, none⟩)), (15, .slice (some ⟨bV, 0, none⟩) n n), (17, kv), (71, .slice (some ⟨bR, 0, none⟩) n n), (72, .int .i64 (n : Int)), (73, .int .i64 (k : Int)), (18, .int .i64 (k : Int)), (19, .pointer (some ⟨b19, 0, none⟩))] ∧ Cur w w' p N s kv ∧ Row w' b19 55 36 (fun i' => (routeC key port).getD i' undef)) ∧ ¬ (p.purpose = 1 ∧ inR p.lo p.wd key = true)) ?_ ?_
  · have hE3 := hE' w3 cur3.chg
    refine sq ?_
    refine st0 hA (wn rfl) rfl rfl (x_mv rfl) fun a hA => ?_
    refine st0 hA (wn rfl) rfl rfl (x_nil rfl) fun a hA => ?_
    refine st0 hA (wn rfl) rfl rfl (x_fld rfl (fld49_4 _ _ _)) fun a hA => ?_
    refine st0 hA (wn rfl) rfl rfl (x_load rfl (Lk.one hE3.lk ag42 0 _ (by omega) rfl)) fun a hA => ?_
    by_cases hpl : p.purpose = 1
    · refine st0 hA (wn rfl) rfl rfl (x_bin rfl rfl (eql42T _ _ _ _ hpl)) fun a hA => ?_
      refine st0 hA (wn rfl) rfl rfl (x_mv rfl) fun a hA => ?_
      refine st0 hA (wy rfl rfl rfl) rfl rfl (x_mv rfl) fun a hA => ?_
      refine st0 hA (wy rfl rfl rfl) rfl rfl (x_fld rfl (fld55_0 _ _ _)) fun a hA => ?_
      refine st0 hA (wy rfl rfl rfl) rfl rfl (x_load rfl (row_route rr3).2.1) fun a hA => ?_
      refine st hA (wy rfl rfl rfl) rfl rfl (x_call (cap := []) rfl rfl c22 (in_range bL key p w3 hK hlo hwd hE3.lk)) fun a w4 hA b4 => ?_
      refine st0 hA (wn rfl) rfl rfl (x_pick rfl rfl) fun a hA => ?_
      refine fin ?_
      cases hin : inR p.lo p.wd key with
      | true =>
        rw [hin] at hA
        refine cdte hA rfl (xin (n_th (hdone _ _ kv (hA.pick [0, 5, 8, 9, 10, 15, 17, 71, 72, 73]) ?_)))
        have : stepR (ctxOf p d fr) s k key port = s := by unfold stepR ctxOf; rw [if_pos ⟨by simpa using hpl, hin⟩]
        rw [this]
        exact (cur3.keep (Chg.F b4)).mono (by omega)
      | false =>
        rw [hin] at hA
        exact cdfs hA rfl ⟨⟨hA.pick [0, 5, 8, 9, 10, 15, 17, 71, 72, 73, 18, 19], cur3.keep (Chg.F b4), rr3.below b4 rr3.lt⟩, by simp⟩
    · refine st0 hA (wn rfl) rfl rfl (x_bin rfl rfl (eql42F _ _ _ _ hpl)) fun a hA => ?_
      refine st0 hA (wn rfl) rfl rfl (x_mv rfl) fun a hA => ?_
      refine sts hA (sh rfl rfl rfl rfl) rfl rfl fun a hA => ?_
      refine sts hA (sh rfl rfl rfl rfl) rfl rfl fun a hA => ?_
      refine sts hA (sh rfl rfl rfl rfl) rfl rfl fun a hA => ?_
      refine sts hA (sh rfl rfl rfl rfl) rfl rfl fun a hA => ?_
      refine st0 hA (wn rfl) rfl rfl (x_pick rfl rfl) fun a hA => ?_
      refine fin ?_
      exact cdfs hA rfl ⟨⟨hA.pick [0, 5, 8, 9, 10, 15, 17, 71, 72, 73, 18, 19], cur3, rr3⟩, fun h => hpl h.1⟩
  rintro a w4 ⟨⟨hA, cur4, rr4⟩, hnp⟩
  have hnp' : ¬ ((ctxOf p d fr).placing = true ∧ inR (ctxOf p d fr).lo (ctxOf p d fr).wd key = true) := fun h => hnp ⟨by simpa [ctxOf] using h.1, h.2⟩
  clear rr3 cur3 c13 r3 u3 hr3 m2 hr2 hrt hcur hE1
  -- dead
  have hE4 := hE' w4 cur4.chg
  have hD4 := hD' w4 cur4.chg
  refine wp_seq ?_
  refine wp_seq ?_
  refine drawn_keep [.pointer (some ⟨bL, 0, none⟩), .pointer (some ⟨bL, 0, none⟩), .pointer (some ⟨bL, 0 + 105, none⟩), .map (some p.dead), .pointer (some ⟨b19, 0 + 32, none⟩), apV port, .bool (d port)] (· = w4.drew) (hA.pick [0, 5, 8, 9, 10, 15, 17, 71, 72, 73, 18, 19]) mixed (by kernel_rfl) rfl ?_ ?_
  · refine each_cons (do0 rfl [] rfl (wn rfl) fun w hS => (x_mv rfl)) ?_
    refine each_cons (do0 rfl [(89, 0)] rfl (wn rfl) fun w hS => (x_nil rfl)) ?_
    refine each_cons (do0 rfl [(90, 1)] rfl (wn rfl) fun w hS => (x_fld rfl (fld49_9 _ _ _))) ?_
    refine each_cons (do0 rfl [(91, 2)] rfl (wn rfl) fun w hS => (x_load rfl (by subst hS; exact Lk.one (w := w4.drew) hE4.lk ag46 5 _ (by omega) rfl))) ?_
    refine each_cons (do0 rfl [] rfl (wn rfl) fun w hS => (x_fld rfl (fld55_1 _ _ _))) ?_
    refine each_cons (do0 rfl [(93, 4)] rfl (wn rfl) fun w hS => (x_load rfl (by subst hS; exact (row_route (w := w4.drew) rr4).2.2))) ?_
    refine each_cons (do0 rfl [(92, 3), (94, 5)] rfl (wn rfl) fun w hS => (x_look rfl rfl (by subst hS; exact IsDead.look (w := w4.drew) hD4 hP))) ?_
    exact each_nil
  intro a w5 hA e5
  subst e5
  refine n_th ?_
  have cur5 := cur4.keep (Chg.refl _ w4).drew
  have rr5 : Row w4.drew b19 55 36 (fun i' => (routeC key port).getD i' undef) := rr4
  have hE5 := hE' w4.drew cur5.chg
  generalize w4.drew = w5 at *
  clear hE4 hD4 rr4 cur4
  cases hdd : d port with
  | true =>
    rw [hdd] at hA
    refine cdt hA rfl ?_
    refine sq ?_
    refine st0 hA (wn rfl) rfl rfl (x_mv rfl) fun a hA => ?_
    refine st0 hA (wn rfl) rfl rfl (x_load rfl (row_route rr5).1) fun a hA => ?_
    refine st hA (wn rfl) rfl rfl (x_call (cap := []) rfl rfl c23 (keep_unheard bL key N _ p port _ w5 hK hlo hwd (by omega) hE5.lk cur5.unheard)) fun a w6 hA T6 => ?_
    obtain ⟨c6, y6, n6⟩ := T6
    refine fin ?_
    refine wp_exit (x_th (xin (n_th (hdone _ _ kv (hA.pick [0, 5, 8, 9, 10, 15, 17, 71, 72, 73]) ?_))))
    have kk : ∀ b, b ≠ p.unheard → ¬ (b = p.unheard) := fun _ h => h
    have hko : w6.ownsRow w.heap.size 3 1 kv s.kept.length (intsC s.kept) := owns_keep cur5.kept c6 fun b hb e => map_ne_own cur5.kept cur5.unheard.map (by rw [hb, e])
    have hch : Chg (X3 p) w w6 := cur5.chg.comp c6 fun x _ e => .inr (.inr e)
    cases hin : inR p.lo p.wd key with
    | true =>
      have e : stepR (ctxOf p d fr) s k key port = { s with u := putP s.u key port } := by
        unfold stepR
        rw [if_neg hnp', if_pos (show (ctxOf p d fr).dead port = true from hdd), if_pos (show inR (ctxOf p d fr).lo (ctxOf p d fr).wd key = true from hin)]
      rw [e]
      refine ⟨hch, (cur5.known.chg c6 hAp.ku).mono (by omega), (cur5.shownBy.chg c6 hAp.bu).mono (by omega), ?_, hko⟩
      have := y6 hin
      unfold MapP
      rw [show ({ s with u := putP s.u key port } : TS).u = putP s.u key port from rfl, cntP_put s.u key port 256 (by omega)]
      have e1 : ((s.u key).map apV).isSome = (s.u key).isSome := by cases s.u key <;> rfl
      rw [e1] at this
      have e2 : (fun j => (putP s.u key port j).map apV) = putK (fun j => (s.u j).map apV) key (apV port) := by
        funext j
        unfold putP putK
        split <;> rfl
      rw [e2]
      exact this
    | false =>
      have e : stepR (ctxOf p d fr) s k key port = s := by
        unfold stepR
        rw [if_neg hnp', if_pos (show (ctxOf p d fr).dead port = true from hdd), if_neg (show ¬ inR (ctxOf p d fr).lo (ctxOf p d fr).wd key = true by rw [show inR (ctxOf p d fr).lo (ctxOf p d fr).wd key = inR p.lo p.wd key from rfl, hin]; simp)]
      rw [e]
      have hM : MapP w6 p.unheard N s.u := n6 hin
      exact ⟨hch, (cur5.known.chg c6 hAp.ku).mono (by omega), (cur5.shownBy.chg c6 hAp.bu).mono (by omega), hM.mono (by omega), hko⟩
  | false =>
    rw [hdd] at hA
    refine cdfs hA rfl ?_
    have hnd' : ¬ (ctxOf p d fr).dead port = true := by rw [show (ctxOf p d fr).dead port = d port from rfl, hdd]; simp
    obtain ⟨q5, c5, rfl⟩ := owns_slice cur5.kept
    obtain ⟨w6, hr6, m6⟩ := mk_bs60 (k : Int) w5
    have cur6 := cur5.keep (Chg.F m6.1)
    have rr6 := rr5.below m6.1 rr5.lt
    have hsz6 : w.heap.size ≤ w6.heap.size := cur6.chg.size
    obtain ⟨kv', w7, hr7, hown7, c7⟩ := app1 (t := 60) (e := 3) Yba.underlying60 ti3 rfl (by omega) cur6.kept m6 rfl rfl (by omega) (by omega) hsz6 60 #[false, false]
    have hkc : intsC s.kept ++ [Value.int .i64 (k : Int)] = intsC (s.kept ++ [k]) := by unfold intsC; rw [List.map_append]; rfl
    rw [hkc] at hown7
    have cur7 : Cur w w7 p N { s with kept := s.kept ++ [k] } kv' := by
      refine ⟨cur6.chg.comp c7 fun x hx e => ?_, cur6.known.chg c7 (map_ne_own cur6.kept cur6.known.map), cur6.shownBy.chg c7 (map_ne_own cur6.kept cur6.shownBy.map), cur6.unheard.chg c7 (map_ne_own cur6.kept cur6.unheard.map), ?_⟩
      · have := (owns_lt cur6.kept e.symm).1
        omega
      · rw [List.length_append]
        exact hown7
    have rr7 := rr6.chg c7 (row_ne_own cur6.kept rr6 (by decide))
    refine sq ?_
    refine st0 hA (wn rfl) rfl rfl (x_mv rfl) fun a hA => ?_
    refine st0 hA (wn rfl) rfl rfl (x_mv rfl) fun a hA => ?_
    refine st hA (wn rfl) rfl rfl (x_bslice rfl ⟨w6, hr6, rfl⟩) fun a w6' hA e => ?_
    subst e
    refine st hA (wn rfl) rfl rfl (x_blt rfl ⟨w7, hr7, rfl⟩) fun a w7' hA e => ?_
    subst e
    refine st0 hA (wn rfl) rfl rfl (x_as rfl) fun a hA => ?_
    refine fin ?_
    clear hr7 hr6 c7 hown7 hkc cur6 rr6 cur5 rr5 hE5
    -- the map known
    have hE7 := hE' w7 cur7.chg
    obtain ⟨w8, hr8, m8⟩ := mk_alloc _ al37 w7.drew
    have hs8 : w8.heap.size = w7.heap.size + 1 := m8.2.1
    obtain ⟨w9, hr9, u9, r9⟩ := m8.row.store (ty := 37) (o := 0) (apC ((s.f key).getD 0)) info37 (apC_one _) (Nat.le_refl _)
    have c78 : Chg (fun _ => False) w7 w8 := (Chg.refl _ w7).drew.trans (Chg.of_below m8.1)
    have c79 : Chg (fun _ => False) w7 w9 := c78.comp (Chg.of_up (X := (· = w7.heap.size)) u9 rfl) fun x hx e => by
      have : x = w7.heap.size := e
      omega
    have rb9 : Row w9 w7.heap.size 37 4 (fun i' => (apC ((s.f key).getD 0)).getD i' undef) := by
      refine r9.ext fun x hx => ?_
      have hx' : x < 4 := hx
      rw [if_pos (by simp only [apC, List.length_cons, List.length_nil]; omega)]
      rfl
    have hI7 : ∀ w', Chg (fun _ => False) w7 w' → (Env w' bL bF bw bn bR n p fr whole rs ∧ Row w' b19 55 36 (fun i' => (routeC key port).getD i' undef) ∧ MapP w' p.known N s.f) := fun w' h => ⟨hE7.keep h fun _ _ _ _ _ => id, rr7.chg h id, cur7.known.chg h id⟩
    refine wp_seq ?_
    refine drawn_ph [.pointer (some ⟨bL, 0, none⟩), .pointer (some ⟨bL, 0, none⟩), .pointer (some ⟨bL, 0 + 101, none⟩), .map (some p.known), .pointer (some ⟨b19, 0, none⟩), keyV key, .tuple #[apV ((s.f key).getD 0), .bool (s.f key).isSome], .tuple #[apV ((s.f key).getD 0), .bool (s.f key).isSome], apV ((s.f key).getD 0), .bool (s.f key).isSome, .pointer (some ⟨w7.heap.size, 0, none⟩), undef, .bool (s.f key).isSome] [10, 11]
      (fun q w' => (Env w' bL bF bw bn bR n p fr whole rs ∧ Row w' b19 55 36 (fun i' => (routeC key port).getD i' undef) ∧ MapP w' p.known N s.f) ∧ ([w7.drew, w8, w9] : List World)[q]? = some w') (hA.pick [0, 5, 8, 9, 10, 15, 17, 71, 72, 73, 18, 19]) mixed (by kernel_rfl) (by kernel_rfl) rfl ⟨hI7 _ (Chg.refl _ w7).drew, rfl⟩ ?_ ?_
    · refine each_cons (dp0 rfl rfl [] rfl (wn rfl) fun q w hS => (x_mv rfl)) ?_
      refine each_cons (dp0 rfl rfl [(104, 0)] rfl (wn rfl) fun q w hS => (x_nil rfl)) ?_
      refine each_cons (dp0 rfl rfl [(105, 1)] rfl (wn rfl) fun q w hS => (x_fld rfl (fld49_5 _ _ _))) ?_
      refine each_cons (dp0 rfl rfl [(106, 2)] rfl (wn rfl) fun q w hS => (x_load rfl (Lk.one hS.1.1.lk ag43 1 _ (by omega) rfl))) ?_
      refine each_cons (dp0 rfl rfl [] rfl (wn rfl) fun q w hS => (x_fld rfl (fld55_0 _ _ _))) ?_
      refine each_cons (dp0 rfl rfl [(108, 4)] rfl (wn rfl) fun q w hS => (x_load rfl (row_route hS.1.2.1).2.1)) ?_
      refine each_cons (dp0 rfl rfl [(107, 3), (109, 5)] rfl (wn rfl) fun q w hS => (x_look rfl rfl (hS.1.2.2.look hK))) ?_
      refine each_cons (dp0 rfl rfl [(110, 6)] rfl (wn rfl) fun q w hS => (x_mv rfl)) ?_
      refine each_cons (dp0 rfl rfl [(103, 7)] rfl (wn rfl) fun q w hS => (x_ext rfl rfl)) ?_
      refine each_cons (dp0 rfl rfl [(103, 7)] rfl (wn rfl) fun q w hS => (x_ext rfl rfl)) ?_
      refine each_cons (dp1 rfl rfl [] rfl (wn rfl) fun w hS => (x_alloc ⟨w8, by obtain rfl := Option.some.inj hS.2; exact hr8, hI7 _ c78, rfl⟩)) ?_
      refine each_cons (dp1 rfl rfl [(20, 10), (111, 8)] rfl (wn rfl) fun w hS => (x_store rfl rfl ⟨w9, by obtain rfl := Option.some.inj hS.2; exact hr9, hI7 _ c79, rfl⟩)) ?_
      refine each_cons (dp0 rfl rfl [(112, 9)] rfl (wn rfl) fun q w hS => (x_as rfl)) ?_
      exact each_nil
    rintro a w9' hA ⟨_, e9⟩
    obtain rfl := Option.some.inj e9
    refine n_th ?_
    have cur9 := cur7.keep c79
    have rr9 := rr7.chg c79 id
    have hA9 : At a 255 [(0, .pointer (some ⟨bL, 0, none⟩)), (5, .pointer (some ⟨bF, 0, none⟩)), (8, .slice (some ⟨bR, 0, none⟩) n n), (9, .pointer (some ⟨bw, 0, none⟩)), (10, .pointer (some ⟨bn, 0, none⟩)), (15, .slice (some ⟨bV, 0, none⟩) n n), (17, kv'), (71, .slice (some ⟨bR, 0, none⟩) n n), (72, .int .i64 (n : Int)), (73, .int .i64 (k : Int)), (19, .pointer (some ⟨b19, 0, none⟩)), (20, .pointer (some ⟨w7.heap.size, 0, none⟩)), (21, .bool (s.f key).isSome)] := hA.pick [0, 5, 8, 9, 10, 15, 17, 71, 72, 73, 19, 20, 21]
    clear hA e9 hI7 hE7
    generalize hb20 : w7.heap.size = b20 at *
    clear hr8 hr9 m8 u9 r9 c78 c79 hs8 cur7 rr7 hb20
    -- the switch
    have cur10 := cur9.keep (Chg.refl _ w9).drew
    have rr10 : Row w9.drew b19 55 36 (fun i' => (routeC key port).getD i' undef) := rr9
    have rb10 : Row w9.drew b20 37 4 (fun i' => (apC ((s.f key).getD 0)).getD i' undef) := rb9
    have hE10 := hE' w9.drew cur10.chg
    clear cur9 rr9 rb9
    refine wp_block ?_
    have hend : ∀ a' w', At a' 255 [(0, .pointer (some ⟨bL, 0, none⟩)), (5, .pointer (some ⟨bF, 0, none⟩)), (8, .slice (some ⟨bR, 0, none⟩) n n), (9, .pointer (some ⟨bw, 0, none⟩)), (10, .pointer (some ⟨bn, 0, none⟩)), (15, .slice (some ⟨bV, 0, none⟩) n n), (17, kv'), (71, .slice (some ⟨bR, 0, none⟩) n n), (72, .int .i64 (n : Int)), (73, .int .i64 (k : Int))] → Cur w w' p (N + 1) (stepR (ctxOf p d fr) s k key port) kv' → Exit.inBlock 6 (Exit.inBlock 5 (Exit.then K Q)) .normal a' w' := fun a' w' h1 h2 => n_in (n_in (n_th (hdone a' w' kv' h1 h2)))
    have hst0 : stepR (ctxOf p d fr) s k key port = (if s.f key = none ∧ ((port : Int) ≠ p.self ∨ fr = p.self) then { s with kept := s.kept ++ [k], f := putP s.f key port, g := putP s.g key fr } else if s.f key = some (port : Int) ∧ fr = port then { s with kept := s.kept ++ [k], g := putP s.g key fr } else { s with kept := s.kept ++ [k] }) := by
      unfold stepR
      rw [if_neg hnp', if_neg hnd']
      rfl
    have hend3 : ∀ a' w', At a' 255 [(0, .pointer (some ⟨bL, 0, none⟩)), (5, .pointer (some ⟨bF, 0, none⟩)), (8, .slice (some ⟨bR, 0, none⟩) n n), (9, .pointer (some ⟨bw, 0, none⟩)), (10, .pointer (some ⟨bn, 0, none⟩)), (15, .slice (some ⟨bV, 0, none⟩) n n), (17, kv'), (71, .slice (some ⟨bR, 0, none⟩) n n), (72, .int .i64 (n : Int)), (73, .int .i64 (k : Int))] → Cur w w' p N { s with kept := s.kept ++ [k] } kv' → ¬ (s.f key = none ∧ ((port : Int) ≠ p.self ∨ fr = p.self)) → ¬ (s.f key = some (port : Int) ∧ fr = port) → Exit.inBlock 6 (Exit.inBlock 5 (Exit.then K Q)) .normal a' w' := fun a' w' h1 h2 h3 h4 => hend a' w' h1 (by rw [hst0, if_neg h3, if_neg h4]; exact h2.mono (by omega))
    cases hf : s.f key with
    | some q =>
      rw [hf] at hA9 rb10
      have hnone : ¬ (s.f key = none ∧ ((port : Int) ≠ p.self ∨ fr = p.self)) := by rw [hf]; simp
      have hA9 : At a 255 [(0, .pointer (some ⟨bL, 0, none⟩)), (5, .pointer (some ⟨bF, 0, none⟩)), (8, .slice (some ⟨bR, 0, none⟩) n n), (9, .pointer (some ⟨bw, 0, none⟩)), (10, .pointer (some ⟨bn, 0, none⟩)), (15, .slice (some ⟨bV, 0, none⟩) n n), (17, kv'), (71, .slice (some ⟨bR, 0, none⟩) n n), (72, .int .i64 (n : Int)), (73, .int .i64 (k : Int)), (19, .pointer (some ⟨b19, 0, none⟩)), (20, .pointer (some ⟨b20, 0, none⟩)), (21, .bool true)] := hA9
      refine wp_seq ?_
      refine drawn_keep [.bool true, .bool false, .bool false, undef, undef, undef, undef, undef, undef, undef, undef, undef, undef, undef, undef, undef, undef, undef, .bool false, .bool false] (· = w9.drew) hA9 mixed (by kernel_rfl) rfl ?_ ?_
      · refine each_cons (do0 rfl [] rfl (wn rfl) fun w hS => (x_mv rfl)) ?_
        refine each_cons (do0 rfl [(114, 0)] rfl (wn rfl) fun w hS => (x_not' rfl rfl)) ?_
        refine each_cons (do0 rfl [(115, 1)] rfl (wn rfl) fun w hS => (x_mv rfl)) ?_
        refine each_cons (dos rfl [(116, 2)] rfl (sh rfl rfl rfl rfl) rfl) ?_
        refine each_cons (dos rfl [(116, 2)] rfl (sh rfl rfl rfl rfl) rfl) ?_
        refine each_cons (dos rfl [(116, 2)] rfl (sh rfl rfl rfl rfl) rfl) ?_
        refine each_cons (dos rfl [(116, 2)] rfl (sh rfl rfl rfl rfl) rfl) ?_
        refine each_cons (dos rfl [(116, 2)] rfl (sh rfl rfl rfl rfl) rfl) ?_
        refine each_cons (dos rfl [(116, 2)] rfl (sh rfl rfl rfl rfl) rfl) ?_
        refine each_cons (dos rfl [(116, 2)] rfl (sh rfl rfl rfl rfl) rfl) ?_
        refine each_cons (dos rfl [(116, 2)] rfl (sh rfl rfl rfl rfl) rfl) ?_
        refine each_cons (dos rfl [(124, 10)] rfl (shn rfl rfl rfl) rfl) ?_
        refine each_cons (dos rfl [(124, 10)] rfl (shn rfl rfl rfl) rfl) ?_
        refine each_cons (dos rfl [(124, 10)] rfl (shn rfl rfl rfl) rfl) ?_
        refine each_cons (dos rfl [(124, 10)] rfl (shn rfl rfl rfl) rfl) ?_
        refine each_cons (dos rfl [(124, 10)] rfl (shn rfl rfl rfl) rfl) ?_
        refine each_cons (dos rfl [(124, 10)] rfl (shn rfl rfl rfl) rfl) ?_
        refine each_cons (dos rfl [(116, 2)] rfl (sh rfl rfl rfl rfl) rfl) ?_
        refine each_cons (do0 rfl [(116, 2), (131, 17)] rfl (wn rfl) fun w hS => (x_pick rfl rfl)) ?_
        refine each_cons (do0 rfl [(132, 18)] rfl (wn rfl) fun w hS => (x_as rfl)) ?_
        exact each_nil
      intro a w10 hA e10
      subst e10
      generalize w9.drew = w10 at *
      have hA : At a 255 [(113, .bool false), (0, .pointer (some ⟨bL, 0, none⟩)), (5, .pointer (some ⟨bF, 0, none⟩)), (8, .slice (some ⟨bR, 0, none⟩) n n), (9, .pointer (some ⟨bw, 0, none⟩)), (10, .pointer (some ⟨bn, 0, none⟩)), (15, .slice (some ⟨bV, 0, none⟩) n n), (17, kv'), (71, .slice (some ⟨bR, 0, none⟩) n n), (72, .int .i64 (n : Int)), (73, .int .i64 (k : Int)), (19, .pointer (some ⟨b19, 0, none⟩)), (20, .pointer (some ⟨b20, 0, none⟩)), (21, .bool true)] := hA.pick [113, 0, 5, 8, 9, 10, 15, 17, 71, 72, 73, 19, 20, 21]
      refine n_th ?_
      refine cdf hA rfl ?_
      refine sq ?_
      refine st0 hA (wn rfl) rfl rfl (x_mv rfl) fun a hA => ?_
      refine st0 hA (wn rfl) rfl rfl (x_mv rfl) fun a hA => ?_
      refine st0 hA (wy rfl rfl rfl) rfl rfl (x_load rfl (row_ap rb10)) fun a hA => ?_
      refine st0 hA (wy rfl rfl rfl) rfl rfl (x_fld rfl (fld55_1 _ _ _)) fun a hA => ?_
      refine st0 hA (wy rfl rfl rfl) rfl rfl (x_load rfl (row_route rr10).2.2) fun a hA => ?_
      by_cases hq : q = port
      · refine st0 hA (wy rfl rfl rfl) rfl rfl (x_bin rfl rfl (by have := eql37 (.tmp 155) (.tmp 157) q port; rw [decide_eq_true hq] at this; exact this)) fun a hA => ?_
        refine st0 hA (wn rfl) rfl rfl (x_pick rfl rfl) fun a hA => ?_
        refine st0 hA (wn rfl) rfl rfl (x_mv rfl) fun a hA => ?_
        refine st0 hA (wy rfl rfl rfl) rfl rfl (x_load rfl (row_ap hE10.from')) fun a hA => ?_
        refine st0 hA (wy rfl rfl rfl) rfl rfl (x_fld rfl (fld55_1 _ _ _)) fun a hA => ?_
        refine st0 hA (wy rfl rfl rfl) rfl rfl (x_load rfl (row_route rr10).2.2) fun a hA => ?_
        by_cases hfr : fr = port
        · refine st0 hA (wy rfl rfl rfl) rfl rfl (x_bin rfl rfl (by have := eql37 (.tmp 161) (.tmp 163) fr port; rw [decide_eq_true hfr] at this; exact this)) fun a hA => ?_
          refine st0 hA (wn rfl) rfl rfl (x_pick rfl rfl) fun a hA => ?_
          refine st0 hA (wn rfl) rfl rfl (x_as rfl) fun a hA => ?_
          refine fin ?_
          refine cdt hA rfl ?_
          have hM : MapP w10.drew p.shown N s.g := cur10.shownBy
          refine drawn_last [.pointer (some ⟨bL, 0, none⟩), .pointer (some ⟨bL, 0, none⟩), .pointer (some ⟨bL, 0 + 102, none⟩), .map (some p.shown), .pointer (some ⟨b19, 0, none⟩), keyV key, apV fr, undef] 7 (· = w10.drew)
            (fun w' => Up w10.drew w' p.shown ∧ MapP w' p.shown (N + 1) (putP s.g key fr)) (hA.pick [0, 5, 8, 9, 10, 15, 17, 71, 72, 73, 19]) mixed (by kernel_rfl) rfl (by kernel_rfl) rfl ?_ ?_
          · refine each_cons (do0 rfl [] rfl (wn rfl) fun w hS => (x_mv rfl)) ?_
            refine each_cons (do0 rfl [(166, 0)] rfl (wn rfl) fun w hS => (x_nil rfl)) ?_
            refine each_cons (do0 rfl [(167, 1)] rfl (wn rfl) fun w hS => (x_fld rfl (fld49_6 _ _ _))) ?_
            refine each_cons (do0 rfl [(168, 2)] rfl (wn rfl) fun w hS => (x_load rfl (by subst hS; exact Lk.one (w := w10.drew) hE10.lk ag43 2 _ (by omega) rfl))) ?_
            refine each_cons (do0 rfl [] rfl (wn rfl) fun w hS => (x_fld rfl (fld55_0 _ _ _))) ?_
            refine each_cons (do0 rfl [(170, 4)] rfl (wn rfl) fun w hS => (x_load rfl (by subst hS; exact (row_route (w := w10.drew) rr10).2.1))) ?_
            refine each_cons (do0 rfl [] rfl (wn rfl) fun w hS => (x_load rfl (by subst hS; exact row_ap (w := w10.drew) hE10.from'))) ?_
            refine each_cons (do1 rfl [(169, 3), (171, 5), (172, 6)] rfl (wn rfl) fun w hS => (x_mapup rfl rfl rfl (by subst hS; exact hM.update (by omega) hK fr))) ?_
            exact each_nil
          intro a w11 hA ⟨hu, hm⟩
          refine hend a w11 (hA.pick [0, 5, 8, 9, 10, 15, 17, 71, 72, 73]) ?_
          rw [hst0, if_neg hnone, if_pos ⟨by rw [hf, hq], hfr⟩]
          have cu : Chg (· = p.shown) w10 w11 := ((Chg.refl _ w10).drew).trans (Chg.of_up hu rfl)
          exact ⟨cur10.chg.comp cu fun x _ e => .inr (.inl e), (cur10.known.chg cu hAp.kb).mono (by omega), hm, (cur10.unheard.chg cu fun e => hAp.bu e.symm).mono (by omega), owns_keep cur10.kept cu fun b hb e => map_ne_own cur10.kept cur10.shownBy.map (by rw [hb, e])⟩
        · refine st0 hA (wy rfl rfl rfl) rfl rfl (x_bin rfl rfl (by have := eql37 (.tmp 161) (.tmp 163) fr port; rw [decide_eq_false hfr] at this; exact this)) fun a hA => ?_
          refine st0 hA (wn rfl) rfl rfl (x_pick rfl rfl) fun a hA => ?_
          refine st0 hA (wn rfl) rfl rfl (x_as rfl) fun a hA => ?_
          refine fin ?_
          exact cdfz hA rfl (hend3 _ _ (hA.pick [0, 5, 8, 9, 10, 15, 17, 71, 72, 73]) cur10 hnone fun h => hfr h.2)
      · refine st0 hA (wy rfl rfl rfl) rfl rfl (x_bin rfl rfl (by have := eql37 (.tmp 155) (.tmp 157) q port; rw [decide_eq_false hq] at this; exact this)) fun a hA => ?_
        refine st0 hA (wn rfl) rfl rfl (x_pick rfl rfl) fun a hA => ?_
        refine st0 hA (wn rfl) rfl rfl (x_mv rfl) fun a hA => ?_
        refine sts hA (sh rfl rfl rfl rfl) rfl rfl fun a hA => ?_
        refine sts hA (sh rfl rfl rfl rfl) rfl rfl fun a hA => ?_
        refine sts hA (sh rfl rfl rfl rfl) rfl rfl fun a hA => ?_
        refine sts hA (sh rfl rfl rfl rfl) rfl rfl fun a hA => ?_
        refine st0 hA (wn rfl) rfl rfl (x_pick rfl rfl) fun a hA => ?_
        refine st0 hA (wn rfl) rfl rfl (x_as rfl) fun a hA => ?_
        refine fin ?_
        exact cdfz hA rfl (hend3 _ _ (hA.pick [0, 5, 8, 9, 10, 15, 17, 71, 72, 73]) cur10 hnone fun h => hq (by have := h.1; rw [hf] at this; simpa using this))
    | none =>
      rw [hf] at hA9
      have hsome : ¬ (s.f key = some (port : Int) ∧ fr = port) := by rw [hf]; simp
      have hA9 : At a 255 [(0, .pointer (some ⟨bL, 0, none⟩)), (5, .pointer (some ⟨bF, 0, none⟩)), (8, .slice (some ⟨bR, 0, none⟩) n n), (9, .pointer (some ⟨bw, 0, none⟩)), (10, .pointer (some ⟨bn, 0, none⟩)), (15, .slice (some ⟨bV, 0, none⟩) n n), (17, kv'), (71, .slice (some ⟨bR, 0, none⟩) n n), (72, .int .i64 (n : Int)), (73, .int .i64 (k : Int)), (19, .pointer (some ⟨b19, 0, none⟩)), (20, .pointer (some ⟨b20, 0, none⟩)), (21, .bool false)] := hA9
      refine cut (fun a' w' => At a' 255 [(113, .bool (decide ((port : Int) ≠ p.self ∨ fr = p.self))), (0, .pointer (some ⟨bL, 0, none⟩)), (5, .pointer (some ⟨bF, 0, none⟩)), (8, .slice (some ⟨bR, 0, none⟩) n n), (9, .pointer (some ⟨bw, 0, none⟩)), (10, .pointer (some ⟨bn, 0, none⟩)), (15, .slice (some ⟨bV, 0, none⟩) n n), (17, kv'), (71, .slice (some ⟨bR, 0, none⟩) n n), (72, .int .i64 (n : Int)), (73, .int .i64 (k : Int)), (19, .pointer (some ⟨b19, 0, none⟩)), (20, .pointer (some ⟨b20, 0, none⟩)), (21, .bool false)] ∧ w9.drew = w') ?_ ?_
      · by_cases hps : (port : Int) ≠ p.self
        ·
          refine drawn_keep [.bool false, .bool true, .bool true, .pointer (some ⟨b19, 0 + 32, none⟩), apV port, .pointer (some ⟨bL, 0, none⟩), .pointer (some ⟨bL, 0, none⟩), .pointer (some ⟨bL, 0, none⟩), apV p.self, .bool true, .bool true, undef, undef, undef, undef, undef, undef, .bool true, .bool true, .bool true] (· = w9.drew) hA9 mixed (by kernel_rfl) rfl ?_ ?_
          · refine each_cons (do0 rfl [] rfl (wn rfl) fun w hS => (x_mv rfl)) ?_
            refine each_cons (do0 rfl [(114, 0)] rfl (wn rfl) fun w hS => (x_not' rfl rfl)) ?_
            refine each_cons (do0 rfl [(115, 1)] rfl (wn rfl) fun w hS => (x_mv rfl)) ?_
            refine each_cons (do0 rfl [(116, 2)] rfl (wy rfl rfl rfl) fun w hS => (x_fld rfl (fld55_1 _ _ _))) ?_
            refine each_cons (do0 rfl [(117, 3), (116, 2)] rfl (wy rfl rfl rfl) fun w hS => (x_load rfl (by subst hS; exact (row_route rr10).2.2))) ?_
            refine each_cons (do0 rfl [(116, 2)] rfl (wy rfl rfl rfl) fun w hS => (x_mv rfl)) ?_
            refine each_cons (do0 rfl [(119, 5), (116, 2)] rfl (wy rfl rfl rfl) fun w hS => (x_nil rfl)) ?_
            refine each_cons (do0 rfl [(120, 6), (116, 2)] rfl (wy rfl rfl rfl) fun w hS => (x_fld rfl (fld49_0 _ _ _))) ?_
            refine each_cons (do0 rfl [(121, 7), (116, 2)] rfl (wy rfl rfl rfl) fun w hS => (x_load rfl (by subst hS; exact hE10.lk.self))) ?_
            refine each_cons (do0 rfl [(118, 4), (122, 8), (116, 2)] rfl (wy rfl rfl rfl) fun w hS => (x_bin rfl rfl (by have := neq37 (.tmp 118) (.tmp 122) port p.self; rw [decide_eq_true hps] at this; exact this))) ?_
            refine each_cons (do0 rfl [(123, 9), (116, 2)] rfl (wy rfl rfl rfl) fun w hS => (x_mv rfl)) ?_
            refine each_cons (dos rfl [(124, 10)] rfl (sh rfl rfl rfl rfl) rfl) ?_
            refine each_cons (dos rfl [(124, 10)] rfl (sh rfl rfl rfl rfl) rfl) ?_
            refine each_cons (dos rfl [(124, 10)] rfl (sh rfl rfl rfl rfl) rfl) ?_
            refine each_cons (dos rfl [(124, 10)] rfl (sh rfl rfl rfl rfl) rfl) ?_
            refine each_cons (dos rfl [(124, 10)] rfl (sh rfl rfl rfl rfl) rfl) ?_
            refine each_cons (dos rfl [(124, 10)] rfl (sh rfl rfl rfl rfl) rfl) ?_
            refine each_cons (do0 rfl [(124, 10), (130, 16), (116, 2)] rfl (wy rfl rfl rfl) fun w hS => (x_pick rfl rfl)) ?_
            refine each_cons (do0 rfl [(116, 2), (131, 17)] rfl (wn rfl) fun w hS => (x_pick rfl rfl)) ?_
            refine each_cons (do0 rfl [(132, 18)] rfl (wn rfl) fun w hS => (x_as rfl)) ?_
            exact each_nil
          · intro a w10 hA e10
            subst e10
            refine n_th ⟨?_, rfl⟩
            rw [decide_eq_true (.inl hps)]
            exact hA.pick [113, 0, 5, 8, 9, 10, 15, 17, 71, 72, 73, 19, 20, 21]
        · by_cases hfs : fr = p.self
          ·
            refine drawn_keep [.bool false, .bool true, .bool true, .pointer (some ⟨b19, 0 + 32, none⟩), apV port, .pointer (some ⟨bL, 0, none⟩), .pointer (some ⟨bL, 0, none⟩), .pointer (some ⟨bL, 0, none⟩), apV p.self, .bool false, .bool false, apV fr, .pointer (some ⟨bL, 0, none⟩), .pointer (some ⟨bL, 0, none⟩), .pointer (some ⟨bL, 0, none⟩), apV p.self, .bool true, .bool true, .bool true, .bool true] (· = w9.drew) hA9 mixed (by kernel_rfl) rfl ?_ ?_
            · refine each_cons (do0 rfl [] rfl (wn rfl) fun w hS => (x_mv rfl)) ?_
              refine each_cons (do0 rfl [(114, 0)] rfl (wn rfl) fun w hS => (x_not' rfl rfl)) ?_
              refine each_cons (do0 rfl [(115, 1)] rfl (wn rfl) fun w hS => (x_mv rfl)) ?_
              refine each_cons (do0 rfl [(116, 2)] rfl (wy rfl rfl rfl) fun w hS => (x_fld rfl (fld55_1 _ _ _))) ?_
              refine each_cons (do0 rfl [(117, 3), (116, 2)] rfl (wy rfl rfl rfl) fun w hS => (x_load rfl (by subst hS; exact (row_route rr10).2.2))) ?_
              refine each_cons (do0 rfl [(116, 2)] rfl (wy rfl rfl rfl) fun w hS => (x_mv rfl)) ?_
              refine each_cons (do0 rfl [(119, 5), (116, 2)] rfl (wy rfl rfl rfl) fun w hS => (x_nil rfl)) ?_
              refine each_cons (do0 rfl [(120, 6), (116, 2)] rfl (wy rfl rfl rfl) fun w hS => (x_fld rfl (fld49_0 _ _ _))) ?_
              refine each_cons (do0 rfl [(121, 7), (116, 2)] rfl (wy rfl rfl rfl) fun w hS => (x_load rfl (by subst hS; exact hE10.lk.self))) ?_
              refine each_cons (do0 rfl [(118, 4), (122, 8), (116, 2)] rfl (wy rfl rfl rfl) fun w hS => (x_bin rfl rfl (by have := neq37 (.tmp 118) (.tmp 122) port p.self; rw [decide_eq_false hps] at this; exact this))) ?_
              refine each_cons (do0 rfl [(123, 9), (116, 2)] rfl (wy rfl rfl rfl) fun w hS => (x_mv rfl)) ?_
              refine each_cons (do0 rfl [(124, 10)] rfl (wy rfl rfl rfl) fun w hS => (x_load rfl (by subst hS; exact row_ap hE10.from'))) ?_
              refine each_cons (do0 rfl [(124, 10)] rfl (wy rfl rfl rfl) fun w hS => (x_mv rfl)) ?_
              refine each_cons (do0 rfl [(126, 12), (124, 10)] rfl (wy rfl rfl rfl) fun w hS => (x_nil rfl)) ?_
              refine each_cons (do0 rfl [(127, 13), (124, 10)] rfl (wy rfl rfl rfl) fun w hS => (x_fld rfl (fld49_0 _ _ _))) ?_
              refine each_cons (do0 rfl [(128, 14), (124, 10)] rfl (wy rfl rfl rfl) fun w hS => (x_load rfl (by subst hS; exact hE10.lk.self))) ?_
              refine each_cons (do0 rfl [(125, 11), (129, 15), (124, 10)] rfl (wy rfl rfl rfl) fun w hS => (x_bin rfl rfl (by have := eql37 (.tmp 125) (.tmp 129) fr p.self; rw [decide_eq_true hfs] at this; exact this))) ?_
              refine each_cons (do0 rfl [(124, 10), (130, 16), (116, 2)] rfl (wy rfl rfl rfl) fun w hS => (x_pick rfl rfl)) ?_
              refine each_cons (do0 rfl [(116, 2), (131, 17)] rfl (wn rfl) fun w hS => (x_pick rfl rfl)) ?_
              refine each_cons (do0 rfl [(132, 18)] rfl (wn rfl) fun w hS => (x_as rfl)) ?_
              exact each_nil
            · intro a w10 hA e10
              subst e10
              refine n_th ⟨?_, rfl⟩
              rw [decide_eq_true (.inr hfs)]
              exact hA.pick [113, 0, 5, 8, 9, 10, 15, 17, 71, 72, 73, 19, 20, 21]
          ·
            refine drawn_keep [.bool false, .bool true, .bool true, .pointer (some ⟨b19, 0 + 32, none⟩), apV port, .pointer (some ⟨bL, 0, none⟩), .pointer (some ⟨bL, 0, none⟩), .pointer (some ⟨bL, 0, none⟩), apV p.self, .bool false, .bool false, apV fr, .pointer (some ⟨bL, 0, none⟩), .pointer (some ⟨bL, 0, none⟩), .pointer (some ⟨bL, 0, none⟩), apV p.self, .bool false, .bool false, .bool false, .bool false] (· = w9.drew) hA9 mixed (by kernel_rfl) rfl ?_ ?_
            · refine each_cons (do0 rfl [] rfl (wn rfl) fun w hS => (x_mv rfl)) ?_
              refine each_cons (do0 rfl [(114, 0)] rfl (wn rfl) fun w hS => (x_not' rfl rfl)) ?_
              refine each_cons (do0 rfl [(115, 1)] rfl (wn rfl) fun w hS => (x_mv rfl)) ?_
              refine each_cons (do0 rfl [(116, 2)] rfl (wy rfl rfl rfl) fun w hS => (x_fld rfl (fld55_1 _ _ _))) ?_
              refine each_cons (do0 rfl [(117, 3), (116, 2)] rfl (wy rfl rfl rfl) fun w hS => (x_load rfl (by subst hS; exact (row_route rr10).2.2))) ?_
              refine each_cons (do0 rfl [(116, 2)] rfl (wy rfl rfl rfl) fun w hS => (x_mv rfl)) ?_
              refine each_cons (do0 rfl [(119, 5), (116, 2)] rfl (wy rfl rfl rfl) fun w hS => (x_nil rfl)) ?_
              refine each_cons (do0 rfl [(120, 6), (116, 2)] rfl (wy rfl rfl rfl) fun w hS => (x_fld rfl (fld49_0 _ _ _))) ?_
              refine each_cons (do0 rfl [(121, 7), (116, 2)] rfl (wy rfl rfl rfl) fun w hS => (x_load rfl (by subst hS; exact hE10.lk.self))) ?_
              refine each_cons (do0 rfl [(118, 4), (122, 8), (116, 2)] rfl (wy rfl rfl rfl) fun w hS => (x_bin rfl rfl (by have := neq37 (.tmp 118) (.tmp 122) port p.self; rw [decide_eq_false hps] at this; exact this))) ?_
              refine each_cons (do0 rfl [(123, 9), (116, 2)] rfl (wy rfl rfl rfl) fun w hS => (x_mv rfl)) ?_
              refine each_cons (do0 rfl [(124, 10)] rfl (wy rfl rfl rfl) fun w hS => (x_load rfl (by subst hS; exact row_ap hE10.from'))) ?_
              refine each_cons (do0 rfl [(124, 10)] rfl (wy rfl rfl rfl) fun w hS => (x_mv rfl)) ?_
              refine each_cons (do0 rfl [(126, 12), (124, 10)] rfl (wy rfl rfl rfl) fun w hS => (x_nil rfl)) ?_
              refine each_cons (do0 rfl [(127, 13), (124, 10)] rfl (wy rfl rfl rfl) fun w hS => (x_fld rfl (fld49_0 _ _ _))) ?_
              refine each_cons (do0 rfl [(128, 14), (124, 10)] rfl (wy rfl rfl rfl) fun w hS => (x_load rfl (by subst hS; exact hE10.lk.self))) ?_
              refine each_cons (do0 rfl [(125, 11), (129, 15), (124, 10)] rfl (wy rfl rfl rfl) fun w hS => (x_bin rfl rfl (by have := eql37 (.tmp 125) (.tmp 129) fr p.self; rw [decide_eq_false hfs] at this; exact this))) ?_
              refine each_cons (do0 rfl [(124, 10), (130, 16), (116, 2)] rfl (wy rfl rfl rfl) fun w hS => (x_pick rfl rfl)) ?_
              refine each_cons (do0 rfl [(116, 2), (131, 17)] rfl (wn rfl) fun w hS => (x_pick rfl rfl)) ?_
              refine each_cons (do0 rfl [(132, 18)] rfl (wn rfl) fun w hS => (x_as rfl)) ?_
              exact each_nil
            · intro a w10 hA e10
              subst e10
              refine n_th ⟨?_, rfl⟩
              rw [decide_eq_false (fun h => h.elim (fun h => hps h) hfs)]
              exact hA.pick [113, 0, 5, 8, 9, 10, 15, 17, 71, 72, 73, 19, 20, 21]
      rintro a _ ⟨hA, rfl⟩
      generalize w9.drew = w10 at *
      by_cases hcond : (port : Int) ≠ p.self ∨ fr = p.self
      · rw [decide_eq_true hcond] at hA
        refine cdt hA rfl ?_
        have hk10 : MapP w10.drew p.known N s.f := cur10.known
        obtain ⟨st1, V1, hb1, v1, hst1⟩ := hk10.entry (by omega) hK
        obtain ⟨V2, hb2, v2, hmk2⟩ := hst1 V1 port rfl
        have d0 : Chg (X3 p) w10 w10.drew := (Chg.refl _ w10).drew
        have d1 : Chg (X3 p) w10 V1 := d0.trans (Chg.of_up v1 (.inl rfl))
        have d2 : Chg (X3 p) w10 V2 := d1.trans (Chg.of_up v2 (.inl rfl))
        have hg2 : MapP V2 p.shown N s.g := ((show MapP w10.drew p.shown N s.g from cur10.shownBy).up v1 (fun e => hAp.kb e.symm)).up v2 (fun e => hAp.kb e.symm)
        obtain ⟨st2, V3, hb3, v3, hst3⟩ := hg2.entry (by omega) hK
        obtain ⟨V4, hb4, v4, hmg4⟩ := hst3 V3 fr rfl
        have d3 : Chg (X3 p) w10 V3 := d2.trans (Chg.of_up v3 (.inr (.inl rfl)))
        have d4 : Chg (X3 p) w10 V4 := d3.trans (Chg.of_up v4 (.inr (.inl rfl)))
        have hx19 : ¬ X3 p b19 := fun e => e.elim (row_ne_map rr10 cur10.known.map) fun e => e.elim (row_ne_map rr10 cur10.shownBy.map) (row_ne_map rr10 cur10.unheard.map)
        have hI : ∀ w', Chg (X3 p) w10 w' → Env w' bL bF bw bn bR n p fr whole rs ∧ Row w' b19 55 36 (fun i' => (routeC key port).getD i' undef) := fun w' h => ⟨hE' w' (cur10.chg.trans h), rr10.chg h hx19⟩
        refine drawn_ph [.pointer (some ⟨bL, 0, none⟩), .pointer (some ⟨bL, 0, none⟩), .pointer (some ⟨bL, 0 + 101, none⟩), .map (some p.known), .pointer (some ⟨b19, 0, none⟩), keyV key, .pointer (some ⟨bL, 0, none⟩), .pointer (some ⟨bL, 0, none⟩), .pointer (some ⟨bL, 0 + 102, none⟩), .map (some p.shown), .pointer (some ⟨b19, 0, none⟩), keyV key, .pointer (some ⟨b19, 0 + 32, none⟩), apV port, apV fr, .tuple #[apV ((s.f key).getD 0), goInt st1], goInt st1, undef, .tuple #[apV ((s.g key).getD 0), goInt st2], goInt st2, undef] [15, 17, 18, 20]
          (fun q w' => (Env w' bL bF bw bn bR n p fr whole rs ∧ Row w' b19 55 36 (fun i' => (routeC key port).getD i' undef)) ∧ ([w10.drew, V1, V2, V3, V4] : List World)[q]? = some w') (hA.pick [0, 5, 8, 9, 10, 15, 17, 71, 72, 73, 19]) mixed (by kernel_rfl) (by kernel_rfl) rfl ⟨hI _ d0, rfl⟩ ?_ ?_
        · refine each_cons (dp0 rfl rfl [] rfl (wn rfl) fun q w hS => (x_mv rfl)) ?_
          refine each_cons (dp0 rfl rfl [(133, 0)] rfl (wn rfl) fun q w hS => (x_nil rfl)) ?_
          refine each_cons (dp0 rfl rfl [(134, 1)] rfl (wn rfl) fun q w hS => (x_fld rfl (fld49_5 _ _ _))) ?_
          refine each_cons (dp0 rfl rfl [(135, 2)] rfl (wn rfl) fun q w hS => (x_load rfl (Lk.one hS.1.1.lk ag43 1 _ (by omega) rfl))) ?_
          refine each_cons (dp0 rfl rfl [] rfl (wn rfl) fun q w hS => (x_fld rfl (fld55_0 _ _ _))) ?_
          refine each_cons (dp0 rfl rfl [(137, 4)] rfl (wn rfl) fun q w hS => (x_load rfl (row_route hS.1.2).2.1)) ?_
          refine each_cons (dp0 rfl rfl [] rfl (wn rfl) fun q w hS => (x_mv rfl)) ?_
          refine each_cons (dp0 rfl rfl [(139, 6)] rfl (wn rfl) fun q w hS => (x_nil rfl)) ?_
          refine each_cons (dp0 rfl rfl [(140, 7)] rfl (wn rfl) fun q w hS => (x_fld rfl (fld49_6 _ _ _))) ?_
          refine each_cons (dp0 rfl rfl [(141, 8)] rfl (wn rfl) fun q w hS => (x_load rfl (Lk.one hS.1.1.lk ag43 2 _ (by omega) rfl))) ?_
          refine each_cons (dp0 rfl rfl [] rfl (wn rfl) fun q w hS => (x_fld rfl (fld55_0 _ _ _))) ?_
          refine each_cons (dp0 rfl rfl [(143, 10)] rfl (wn rfl) fun q w hS => (x_load rfl (row_route hS.1.2).2.1)) ?_
          refine each_cons (dp0 rfl rfl [] rfl (wn rfl) fun q w hS => (x_fld rfl (fld55_1 _ _ _))) ?_
          refine each_cons (dp0 rfl rfl [(145, 12)] rfl (wn rfl) fun q w hS => (x_load rfl (row_route hS.1.2).2.2)) ?_
          refine each_cons (dp0 rfl rfl [] rfl (wn rfl) fun q w hS => (x_load rfl (row_ap hS.1.1.from'))) ?_
          refine each_cons (dp1 rfl rfl [(136, 3), (138, 5)] rfl (wn rfl) fun w hS => (x_mapentry rfl rfl ⟨V1, by obtain rfl := Option.some.inj hS.2; exact hb1, hI _ d1, rfl⟩)) ?_
          refine each_cons (dp0 rfl rfl [(148, 15)] rfl (wn rfl) fun q w hS => (x_ext rfl rfl)) ?_
          refine each_cons (dp1 rfl rfl [(136, 3), (149, 16), (146, 13)] rfl (wn rfl) fun w hS => (x_estore rfl rfl rfl ⟨V2, by obtain rfl := Option.some.inj hS.2; exact hb2, hI _ d2, rfl⟩)) ?_
          refine each_cons (dp1 rfl rfl [(142, 9), (144, 11)] rfl (wn rfl) fun w hS => (x_mapentry rfl rfl ⟨V3, by obtain rfl := Option.some.inj hS.2; exact hb3, hI _ d3, rfl⟩)) ?_
          refine each_cons (dp0 rfl rfl [(150, 18)] rfl (wn rfl) fun q w hS => (x_ext rfl rfl)) ?_
          refine each_cons (dp1 rfl rfl [(142, 9), (151, 19), (147, 14)] rfl (wn rfl) fun w hS => (x_estore rfl rfl rfl ⟨V4, by obtain rfl := Option.some.inj hS.2; exact hb4, hI _ d4, rfl⟩)) ?_
          exact each_nil
        rintro a w11 hA ⟨_, e11⟩
        obtain rfl := Option.some.inj e11
        refine hend a V4 (hA.pick [0, 5, 8, 9, 10, 15, 17, 71, 72, 73]) ?_
        rw [hst0, if_pos ⟨hf, hcond⟩]
        refine ⟨cur10.chg.trans d4, (hmk2.up v3 hAp.kb).up v4 hAp.kb, hmg4, ((((show MapP w10.drew p.unheard N s.u from cur10.unheard).up v1 (fun e => hAp.ku e.symm)).up v2 (fun e => hAp.ku e.symm)).up v3 (fun e => hAp.bu e.symm)).up v4 (fun e => hAp.bu e.symm) |>.mono (by omega), ?_⟩
        exact owns_keep cur10.kept d4 fun b hb e => e.elim (fun e => map_ne_own cur10.kept cur10.known.map (by rw [hb, e])) fun e => e.elim (fun e => map_ne_own cur10.kept cur10.shownBy.map (by rw [hb, e])) fun e => map_ne_own cur10.kept cur10.unheard.map (by rw [hb, e])
      · rw [decide_eq_false hcond] at hA
        refine cdf hA rfl ?_
        refine sq ?_
        refine st0 hA (wn rfl) rfl rfl (x_mv rfl) fun a hA => ?_
        refine st0 hA (wn rfl) rfl rfl (x_mv rfl) fun a hA => ?_
        refine sts hA (sh rfl rfl rfl rfl) rfl rfl fun a hA => ?_
        refine sts hA (sh rfl rfl rfl rfl) rfl rfl fun a hA => ?_
        refine sts hA (sh rfl rfl rfl rfl) rfl rfl fun a hA => ?_
        refine sts hA (sh rfl rfl rfl rfl) rfl rfl fun a hA => ?_
        refine st0 hA (wn rfl) rfl rfl (x_pick rfl rfl) fun a hA => ?_
        refine st0 hA (wn rfl) rfl rfl (x_mv rfl) fun a hA => ?_
        refine sts hA (sh rfl rfl rfl rfl) rfl rfl fun a hA => ?_
        refine sts hA (sh rfl rfl rfl rfl) rfl rfl fun a hA => ?_
        refine sts hA (sh rfl rfl rfl rfl) rfl rfl fun a hA => ?_
        refine sts hA (sh rfl rfl rfl rfl) rfl rfl fun a hA => ?_
        refine st0 hA (wn rfl) rfl rfl (x_pick rfl rfl) fun a hA => ?_
        refine st0 hA (wn rfl) rfl rfl (x_as rfl) fun a hA => ?_
        refine fin ?_
        exact cdfz hA rfl (hend3 _ _ (hA.pick [0, 5, 8, 9, 10, 15, 17, 71, 72, 73]) cur10 (fun h => hcond h.2) hsome)
end Go.Proofs.Ybulkcrtu
