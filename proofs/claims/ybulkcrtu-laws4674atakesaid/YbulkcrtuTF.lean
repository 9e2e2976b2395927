import Derived.Test.YbulkcrtuTE
namespace Go.Proofs.Ybulkcrtu
open Go.RowKit Go.ChangeMaps Go.MapKept

theorem row_ne_row {w : World} {b c t t' n n' : Nat} {g g' : Nat → Value} (h : Row w b t n g) (h' : Row w c t' n' g') (ht : t ≠ t') : b ≠ c := by
  rintro rfl
  obtain ⟨c1, h1, _⟩ := h
  obtain ⟨c2, h2, _⟩ := h'
  rw [h1] at h2
  simp only [Option.some.injEq, Obj.cells.injEq] at h2
  exact ht h2.2.1
def ownN (os : List Bool) (m : Nat) : List Nat := (List.range m).filter fun i => os.getD i false
theorem ownIdx_N (os : List Bool) (m : Nat) : ownIdx os m = (ownN os m).map fun (x : Nat) => (x : Int) := rfl
theorem ownN_succ (os : List Bool) (m : Nat) : ownN os (m + 1) = if os.getD m false = true then ownN os m ++ [m] else ownN os m := by
  unfold ownN
  rw [List.range_succ, List.filter_append]
  by_cases h : os.getD m false = true
  · rw [if_pos h, List.filter_cons_of_pos (p := fun i => os.getD i false) h]; rfl
  · rw [if_neg h, List.filter_cons_of_neg (p := fun i => os.getD i false) h]; simp
def logC (rs : Nat → Nat × Nat) (m : Nat) : List Value := (List.range m).flatMap fun i => routeC (rs i).1 ((rs i).2 : Nat)
theorem logC_succ (rs : Nat → Nat × Nat) (m : Nat) : logC rs (m + 1) = logC rs m ++ routeC (rs m).1 ((rs m).2 : Nat) := by
  unfold logC
  rw [List.range_succ, List.flatMap_append]
  simp
def winV (bR n : Nat) (whole : Bool) : Value := .agg [Value.slice (some ⟨bR, 0, none⟩) n n, .bool whole].toArray
theorem c9 : Callable 9 := ⟨_, Yba.func9, by kernel_rfl, rfl⟩
def XT (p : LkP) (bLog bCalls b : Nat) : Prop := (X3 p b ∨ b = p.linked) ∨ b = bLog ∨ b = bCalls
set_option maxRecDepth 100000 in
set_option maxHeartbeats 2000000 in
/-- take. -/
theorem take_any (bL bR n nl N bLog bCalls bOwn : Nat) (p : LkP) (fr : Int) (whole : Bool) (rs : Nat → Nat × Nat) (d : Nat → Bool) (os : List Bool) (vown : Value) (s : TS)
    (hn : n ≤ 300) (hnl : nl ≤ 1000) (hN : N ≤ 400) (hrs : ∀ i, i < n → (rs i).1 ≤ 255 ∧ 1 ≤ (rs i).2 ∧ (rs i).2 ≤ 4) (hlo : p.lo ≤ 255) (hwd : p.wd ≤ 255) (hAp : Apart p) (hs : s.kept = [])
    (w : World) (hL : Lk w bL p) (hRt : Routes w bR n rs) (hD : IsDead w p.dead d) (hk : MapP w p.known N s.f) (hb : MapP w p.shown N s.g) (hu : MapP w p.unheard N s.u) (hM : LinkM w p.linked nl 0 [] fr)
    (hLog : Row w bLog 53 1 (fun _ => .slice none 0 0)) (hC : Row w bCalls 3 1 (fun _ => .int .i64 0)) (hO : Row w bOwn 23 1 (fun _ => vown)) (hB : Bools w vown os)
    (hlow : ∀ b o n c, vown = .slice (some ⟨b, o, none⟩) n c → b < w.heap.size ∧ b ≠ bLog ∧ b ≠ bCalls ∧ ¬ X3 p b ∧ b ≠ p.linked) :
    Calls Yba.prog 9 #[.pointer (some ⟨bL, 0, none⟩), apV fr, winV bR n whole, vouchV bLog bCalls bOwn] w fun e w' => e = .returned (.tuple #[]) ∧ Chg (XT p bLog bCalls) w w' ∧
      MapP w' p.known (N + n) (runR (ctxOf p d fr) rs s n).f ∧ MapP w' p.shown (N + n) (runR (ctxOf p d fr) rs s n).g ∧ MapP w' p.unheard (N + n) (runR (ctxOf p d fr) rs s n).u ∧
      LinkM w' p.linked (nl + (runR (ctxOf p d fr) rs s n).kept.length) 0 (runL (vouchF os n whole) n whole (runR (ctxOf p d fr) rs s n).kept (fun i => (rs i).1) (runR (ctxOf p d fr) rs s n).kept.length) fr ∧
      ∃ vlog, Row w' bLog 53 1 (fun _ => vlog) ∧ w'.ownsRow w.heap.size 55 36 vlog n (logC rs n) := by
  refine enter (args := [.pointer (some ⟨bL, 0, none⟩), apV fr, winV bR n whole, vouchV bLog bCalls bOwn]) Yba.func9 rfl 255 Yba.ntmps9 rfl fun a hA => ?_
  obtain ⟨w1, hr1, m1⟩ := mk_box (t := 37) (apC fr) w
  obtain ⟨w2, hr2, m2⟩ := mk_box (t := 59) [Value.slice (some ⟨bR, 0, none⟩) n n, .bool whole] w1
  have hs1 : w1.heap.size = w.heap.size + 1 := m1.2.1
  have hs2 : w2.heap.size = w1.heap.size + 1 := m2.2.1
  refine sq ?_
  refine st hA (wn rfl) rfl rfl (x_box rfl ⟨w1, hr1, rfl⟩) fun a w1' hA e => ?_
  subst e
  refine st hA (wn rfl) rfl rfl (x_box rfl ⟨w2, hr2, rfl⟩) fun a w2' hA e => ?_
  subst e
  refine fin ?_
  have rF2 : Row w2 w.heap.size 37 4 (fun i => (apC fr).getD i undef) := m1.row.below m2.1 (by omega)
  have rW2 : Row w2 w1.heap.size 59 2 (fun i => ([Value.slice (some ⟨bR, 0, none⟩) n n, .bool whole] : List Value).getD i undef) := m2.row
  have c02 : Chg (fun _ => False) w w2 := (Chg.F m1.1).trans (Chg.F m2.1)
  obtain ⟨w3, hr3, m3⟩ := mk_alloc _ al4 w2.drew
  have hs3 : w3.heap.size = w2.heap.size + 1 := m3.2.1
  obtain ⟨w4, hr4, u4, r4⟩ := m3.row.store1 (ty := 4) (o := 0) (.bool whole) sz4 rfl (by simp)
  have c23 : Chg (fun _ => False) w2 w3 := (Chg.refl _ w2).drew.trans (Chg.F m3.1)
  have c24 : Chg (fun _ => False) w2 w4 := c23.comp (Chg.of_up (X := (· = w2.heap.size)) u4 rfl) fun x hx e => by
    have : x = w2.heap.size := e
    omega
  have hs4 : w4.heap.size = w2.heap.size + 1 := by rw [u4.size, hs3]
  have rw4 : Row w4 w2.heap.size 4 1 (fun _ => .bool whole) := r4.ext fun i hi => by
    have : i < 1 := hi
    rw [if_pos (by omega)]
  refine wp_seq ?_
  refine drawn_ph [.pointer (some ⟨w1.heap.size, 0, none⟩), .slice (some ⟨bR, 0, none⟩) n n, .pointer (some ⟨w1.heap.size, 0 + 1, none⟩), .bool whole, .pointer (some ⟨w2.heap.size, 0, none⟩), .slice (some ⟨bR, 0, none⟩) n n, undef] [4, 6]
    (fun q w' => Row w' w1.heap.size 59 2 (fun i => ([Value.slice (some ⟨bR, 0, none⟩) n n, .bool whole] : List Value).getD i undef) ∧ ([w2.drew, w3, w4] : List World)[q]? = some w') (hA.pick [0, 3, 5, 6]) mixed (by kernel_rfl) (by kernel_rfl) rfl ⟨rW2, rfl⟩ ?_ ?_
  · refine each_cons (dp0 rfl rfl [] rfl (wn rfl) fun q w hS => (x_fld rfl (fld59_0 _ _ _))) ?_
    refine each_cons (dp0 rfl rfl [(28, 0)] rfl (wn rfl) fun q w hS => (x_load rfl (hS.1.load1 ag53 (by omega)))) ?_
    refine each_cons (dp0 rfl rfl [] rfl (wn rfl) fun q w hS => (x_fld rfl (fld59_1 _ _ _))) ?_
    refine each_cons (dp0 rfl rfl [(30, 2)] rfl (wn rfl) fun q w hS => (x_load rfl (hS.1.load1 ag4 (by omega)))) ?_
    refine each_cons (dp1 rfl rfl [] rfl (wn rfl) fun w hS => (x_alloc ⟨w3, by obtain rfl := Option.some.inj hS.2; exact hr3, rW2.chg c23 id, rfl⟩)) ?_
    refine each_cons (dp0 rfl rfl [(29, 1)] rfl (wn rfl) fun q w hS => (x_as rfl)) ?_
    refine each_cons (dp1 rfl rfl [(9, 4), (31, 3)] rfl (wn rfl) fun w hS => (x_store rfl rfl ⟨w4, by obtain rfl := Option.some.inj hS.2; exact hr4, rW2.chg c24 id, rfl⟩)) ?_
    exact each_nil
  rintro a w4' hA ⟨_, e4⟩
  obtain rfl := Option.some.inj e4
  refine n_th ?_
  have hA : At a 255 [(0, .pointer (some ⟨bL, 0, none⟩)), (3, vouchV bLog bCalls bOwn), (5, .pointer (some ⟨w.heap.size, 0, none⟩)), (8, .slice (some ⟨bR, 0, none⟩) n n), (9, .pointer (some ⟨w2.heap.size, 0, none⟩))] := hA.pick [0, 3, 5, 8, 9]
  obtain ⟨w5, hr5, m5⟩ := mk_alloc _ al3 w4
  obtain ⟨w6, hr6, u6, r6⟩ := m5.row.store1 (ty := 3) (o := 0) (.int .i64 (n : Int)) sz3 rfl (by simp)
  have hs5 : w5.heap.size = w4.heap.size + 1 := m5.2.1
  have c46 : Chg (fun _ => False) w4 w6 := (Chg.F m5.1).comp (Chg.of_up (X := (· = w4.heap.size)) u6 rfl) fun x hx e => by
    have : x = w4.heap.size := e
    omega
  have hs6 : w6.heap.size = w4.heap.size + 1 := by rw [u6.size, hs5]
  have rn6 : Row w6 w4.heap.size 3 1 (fun _ => .int .i64 (n : Int)) := r6.ext fun i hi => by
    have : i < 1 := hi
    rw [if_pos (by omega)]
  refine sq ?_
  refine st0 hA (wn rfl) rfl rfl (x_mv rfl) fun a hA => ?_
  refine st0 hA (wn rfl) rfl rfl (x_len rfl Yba.underlying53) fun a hA => ?_
  refine st hA (wn rfl) rfl rfl (x_alloc ⟨w5, hr5, rfl⟩) fun a w5' hA e => ?_
  subst e
  refine stn hA (wn rfl) rfl (x_store rfl rfl ⟨w6, hr6, rfl⟩) fun w6' e => ?_
  subst e
  refine fin ?_
  refine sq ?_
  refine st0 hA (wn rfl) rfl rfl (x_as rfl) fun a hA => ?_
  refine fin ?_
  have c06 : Chg (fun _ => False) w w6 := c02.trans (c24.trans c46)
  have hE6 : Env w6 bL w.heap.size w2.heap.size w4.heap.size bR n p fr whole rs := ⟨Row.chg hL c06 id, rF2.chg (c24.trans c46) id, rw4.chg c46 id, rn6, Row.chg hRt c06 id⟩
  have hLog6 := hLog.chg c06 id
  have hC6 := hC.chg c06 id
  have hO6 := hO.chg c06 id
  have hll := hLog.lt
  have hlc := hC.lt
  have hnlc : bLog ≠ bCalls := row_ne_row hLog hC (by decide)
  have hB6 : Bools w6 vown os := hB.chg c06 fun _ _ _ _ _ => id
  have hEx : ∀ b t m g, Row w6 b t m g → (b = bL ∨ b = w.heap.size ∨ b = w2.heap.size ∨ b = w4.heap.size ∨ b = bR) → ¬ (b = bLog ∨ b = bCalls) := by
    rintro b t m g _ (rfl | rfl | rfl | rfl | rfl) (e | e)
    · exact row_ne_row hL hLog (by decide) e
    · exact row_ne_row hL hC (by decide) e
    · omega
    · omega
    · omega
    · omega
    · omega
    · omega
    · exact row_ne_row hRt hLog (by decide) e
    · exact row_ne_row hRt hC (by decide) e
  have hk6 := hk.chg c06 id
  have hb6 := hb.chg c06 id
  have hu6 := hu.chg c06 id
  have hM6 := hM.chg c06
  have hD6 := hD.chg c06 id
  have hdead : ∃ es c, w6.heap[p.dead]? = some (.map es c) := ⟨_, _, hD6⟩
  generalize hbF : w.heap.size = bF at *
  generalize hbw : w2.heap.size = bw at *
  generalize hbn : w4.heap.size = bn at *
  refine wp_seq ?_
  refine sq ?_
  refine st0 hA (wn rfl) rfl rfl (x_mv rfl) fun a hA => ?_
  refine st0 hA (wn rfl) rfl rfl (x_len rfl Yba.underlying53) fun a hA => ?_
  refine st0 hA (wn rfl) rfl rfl (x_mv rfl) fun a hA => ?_
  refine fin ?_
  refine lpb (fun m a w' => ∃ (k : Nat) (ov vlog : Value), k + m = n ∧ At a 255 [(0, .pointer (some ⟨bL, 0, none⟩)), (3, vouchV bLog bCalls bOwn), (5, .pointer (some ⟨bF, 0, none⟩)), (8, .slice (some ⟨bR, 0, none⟩) n n), (9, .pointer (some ⟨bw, 0, none⟩)), (10, .pointer (some ⟨bn, 0, none⟩)), (11, ov), (34, .slice (some ⟨bR, 0, none⟩) n n), (35, .int .i64 (n : Int)), (36, .int .i64 (k : Int))] ∧
    Chg (fun b => b = bLog ∨ b = bCalls) w6 w' ∧ Row w' bLog 53 1 (fun _ => vlog) ∧ w'.ownsRow w6.heap.size 55 36 vlog k (logC rs k) ∧ Row w' bCalls 3 1 (fun _ => .int .i64 (k : Int)) ∧ w'.ownsRow w6.heap.size 3 1 ov (ownN os k).length (intsC (ownN os k))) n
    ⟨0, .slice none 0 0, .slice none 0 0, by omega, hA.pick [0, 3, 5, 8, 9, 10, 11, 34, 35, 36], Chg.refl _ _, hLog6, World.ownsRow_nil _ _ _ _, hC6, World.ownsRow_nil _ _ _ _⟩ ?_
  rintro m a w7 ⟨k, ov, vlog, hkm, hA, hc7, hLog7, hown7, hC7, hov7⟩
  have hEk : ∀ w', Chg (fun b => b = bLog ∨ b = bCalls) w6 w' → Env w' bL bF bw bn bR n p fr whole rs := fun w' h =>
    ⟨Row.chg hE6.lk h (hEx _ _ _ _ hE6.lk (.inl rfl)), hE6.from'.chg h (hEx _ _ _ _ hE6.from' (.inr (.inl rfl))), hE6.wraps.chg h (hEx _ _ _ _ hE6.wraps (.inr (.inr (.inl rfl)))), hE6.len.chg h (hEx _ _ _ _ hE6.len (.inr (.inr (.inr (.inl rfl))))), Row.chg hE6.routes h (hEx _ _ _ _ hE6.routes (.inr (.inr (.inr (.inr rfl)))))⟩
  have hmapx : ∀ c, (∃ es k, w6.heap[c]? = some (.map es k)) → ¬ (c = bLog ∨ c = bCalls) := fun c hm e => e.elim (fun e => row_ne_map hLog6 hm e.symm) fun e => row_ne_map hC6 hm e.symm
  by_cases hlt : k < n
  case neg =>
    have hkn : k = n := by omega
    subst hkn
    refine sq ?_
    refine st0 hA (wn rfl) rfl rfl (x_bin rfl rfl (lss3F _ _ _ _ (by omega))) fun a hA => ?_
    refine fin ?_
    refine sqfe hA rfl ?_
    refine x_th (xin (n_th ?_))
    obtain ⟨kp, kc, rfl, hI⟩ := ints_of_own hov7
    refine take2 bL bF bw bn bR k nl N p fr whole rs d os _ s _ hn hnl hN hrs hlo hwd hAp hs a w7 (hA.pick [0, 5, 8, 9, 10, 11]) (hEk w7 hc7) hI (hD6.chg hc7 (hmapx _ hdead)) (hk6.chg hc7 (hmapx _ hk6.map)) (hb6.chg hc7 (hmapx _ hb6.map)) (hu6.chg hc7 (hmapx _ hu6.map)) (hM6.keep_nil hc7 (hmapx _ hM6.map)) fun w8 hc8 g1 g2 g3 g4 => ?_
    have hxm : ∀ c : Nat, (∃ cs t, w7.heap[c]? = some (Obj.cells cs t (0, 0))) → ¬ (X3 p c ∨ c = p.linked) := by
      have key : ∀ c q : Nat, (∃ cs t, w7.heap[c]? = some (Obj.cells cs t (0, 0))) → (∃ es k, w7.heap[q]? = some (Obj.map es k)) → c ≠ q := by
        rintro c q ⟨cs, t, h1⟩ ⟨es, k, h2⟩ rfl
        rw [h1] at h2
        cases h2
      rintro c hcs ((e | e | e) | e)
      · exact key c _ hcs (hk6.chg hc7 (hmapx _ hk6.map)).map e
      · exact key c _ hcs (hb6.chg hc7 (hmapx _ hb6.map)).map e
      · exact key c _ hcs (hu6.chg hc7 (hmapx _ hu6.map)).map e
      · exact key c _ hcs (hM6.keep_nil hc7 (hmapx _ hM6.map)).map e
    refine ⟨rfl, ?_, g1, g2, g3, g4, vlog, hLog7.chg hc8 (hxm _ ?_), ?_⟩
    · exact ((c06.mono fun _ _ h => h.elim).comp hc7 fun _ _ e => .inr e).comp hc8 fun _ _ e => .inl e
    · obtain ⟨cs, h, _⟩ := hLog7
      exact ⟨cs, _, h⟩
    · have h8 := owns_keep hown7 hc8 fun b hb => hxm b (by obtain ⟨_, _, cs, hcs⟩ := owns_lt hown7 hb; exact ⟨cs, _, hcs⟩)
      obtain ⟨q1, q2⟩ := h8
      refine ⟨q1, ?_⟩
      rcases q2 with q2 | ⟨g, cap, cur, e1, e2, e3⟩
      · exact .inl q2
      · exact .inr ⟨g, cap, cur, e1, by omega, e3⟩
  obtain ⟨w8, hr8, m8⟩ := mk_alloc _ al55 w7
  have hs8 : w8.heap.size = w7.heap.size + 1 := m8.2.1
  obtain ⟨w9, hr9, u9, r9⟩ := m8.row.store (ty := 55) (o := 0) (routeC (rs k).1 ((rs k).2 : Nat)) (by rw [routeC_len]; exact info55) (routeC_one _ _) (by rw [routeC_len]; exact Nat.le_refl _)
  have c79 : Chg (fun _ => False) w7 w9 := (Chg.F m8.1).comp (Chg.of_up (X := (· = w7.heap.size)) u9 rfl) fun x hx e => by
    have : x = w7.heap.size := e
    omega
  have rr9 : Row w9 w7.heap.size 55 36 (fun i' => (routeC (rs k).1 ((rs k).2 : Nat)).getD i' undef) := by
    refine r9.ext fun x hx => ?_
    have hx' : x < 36 := hx
    rw [if_pos (by rw [routeC_len]; omega)]
    rfl
  have hc9 : Chg (fun b => b = bLog ∨ b = bCalls) w6 w9 := hc7.comp c79 fun _ _ e => e.elim
  have hsz9 : w6.heap.size ≤ w9.heap.size := hc9.size
  refine sq ?_
  refine st0 hA (wn rfl) rfl rfl (x_bin rfl rfl (lss3T _ _ _ _ (by omega))) fun a hA => ?_
  refine fin ?_
  refine sqts hA rfl ?_
  refine cut (fun a' w' => ∃ (ov' vlog' : Value), At a' 255 [(0, .pointer (some ⟨bL, 0, none⟩)), (3, vouchV bLog bCalls bOwn), (5, .pointer (some ⟨bF, 0, none⟩)), (8, .slice (some ⟨bR, 0, none⟩) n n), (9, .pointer (some ⟨bw, 0, none⟩)), (10, .pointer (some ⟨bn, 0, none⟩)), (11, ov'), (34, .slice (some ⟨bR, 0, none⟩) n n), (35, .int .i64 (n : Int)), (36, .int .i64 (k : Int))] ∧
    Chg (fun b => b = bLog ∨ b = bCalls) w6 w' ∧ Row w' bLog 53 1 (fun _ => vlog') ∧ w'.ownsRow w6.heap.size 55 36 vlog' (k + 1) (logC rs (k + 1)) ∧ Row w' bCalls 3 1 (fun _ => .int .i64 ((k + 1 : Nat) : Int)) ∧ w'.ownsRow w6.heap.size 3 1 ov' (ownN os (k + 1)).length (intsC (ownN os (k + 1)))) ?_ ?_
  · refine wp_block ?_
    refine sq ?_
    refine st0 hA (wn rfl) rfl rfl (x_mv rfl) fun a hA => ?_
    refine st0 hA (wn rfl) rfl rfl (x_idx rfl rfl (idxS _ _ _ _ _ _ Yba.underlying53 sz55 hlt)) fun a hA => ?_
    refine st0 hA (wn rfl) rfl rfl (x_load rfl ((hEk w7 hc7).routes.route hlt)) fun a hA => ?_
    refine st hA (wn rfl) rfl rfl (x_alloc ⟨w8, hr8, rfl⟩) fun a w8' hA e => ?_
    subst e
    refine st0 hA (wn rfl) rfl rfl (x_as rfl) fun a hA => ?_
    refine stn hA (wn rfl) rfl (x_store rfl rfl ⟨w9, hr9, rfl⟩) fun w9' e => ?_
    subst e
    refine fin ?_
    have hO9 : Row w9 bOwn 23 1 (fun _ => vown) := hO6.chg hc9 fun e => e.elim (row_ne_row hO6 hLog6 (by decide)) (row_ne_row hO6 hC6 (by decide))
    have hB9 : Bools w9 vown os := hB6.chg hc9 fun b o m c e => by
      obtain ⟨_, h2, h3, _⟩ := hlow b o m c e
      exact fun h => h.elim h2 h3
    have hcall := vouch_any bLog bCalls bOwn w6.heap.size (rs k).1 k ((rs k).2 : Nat) vlog vown (logC rs k) os w9 (by omega) (hLog7.chg c79 id) (owns_keep hown7 c79 fun _ _ => id) (hC7.chg c79 id) hO9 hB9 hsz9 (fun b o m c e => by
      obtain ⟨h1, h2, h3, _⟩ := hlow b o m c e
      exact ⟨by omega, h2, h3⟩)
    have hov9 := owns_keep hov7 c79 fun _ _ => id
    have hown9 := owns_keep hown7 c79 fun _ _ => id
    refine sq ?_
    refine st0 hA (wn rfl) rfl rfl (x_mv rfl) fun a hA => ?_
    refine st0 hA (wn rfl) rfl rfl (x_load rfl (row_route rr9).1) fun a hA => ?_
    refine st hA (wn rfl) rfl rfl (x_call (cap := [.pointer (some ⟨bLog, 0, none⟩), .pointer (some ⟨bCalls, 0, none⟩), .pointer (some ⟨bOwn, 0, none⟩)]) rfl rfl c8 hcall) fun a w10 hA T10 => ?_
    obtain ⟨c10, vlog', hLog10, hown10, hC10⟩ := T10
    refine fin ?_
    rw [← logC_succ] at hown10
    have hc10 : Chg (fun b => b = bLog ∨ b = bCalls) w6 w10 := hc9.comp c10 fun x hx e => by
      rcases e with e | e | e
      · exact .inl e
      · exact .inr e
      · have := (owns_lt hown9 e.symm).1
        omega
    have hov10 : w10.ownsRow w6.heap.size 3 1 ov (ownN os k).length (intsC (ownN os k)) := owns_keep hov9 c10 fun b hb e => by
      obtain ⟨g1, g2, cs, g3⟩ := owns_lt hov9 hb
      rcases e with e | e | e
      · omega
      · omega
      · obtain ⟨_, _, cs', g4⟩ := owns_lt hown9 e.symm
        rw [g3] at g4
        simp at g4
    cases hv : os.getD k false with
    | false =>
      rw [hv] at hA
      refine cdfz hA rfl (n_in (n_th ⟨ov, vlog', hA.pick [0, 3, 5, 8, 9, 10, 11, 34, 35, 36], hc10, hLog10, hown10, hC10, ?_⟩))
      rw [ownN_succ, if_neg (by rw [hv]; simp)]
      exact hov10
    | true =>
      rw [hv] at hA
      refine cdt hA rfl ?_
      obtain ⟨q5, c5, rfl⟩ := owns_slice hov10
      obtain ⟨w11, hr11, m11⟩ := mk_bs60 (k : Int) w10
      have c1011 := Chg.F m11.1
      have hov11 := owns_keep hov10 c1011 fun _ _ => id
      have hown11 := owns_keep hown10 c1011 fun _ _ => id
      have hlen := (ownIdx_mem os k).2
      rw [ownIdx_N, List.length_map] at hlen
      have hsz11 : w6.heap.size ≤ w11.heap.size := Nat.le_trans hc10.size c1011.size
      obtain ⟨ov', w12, hr12, hov12, c12⟩ := app1 (t := 60) (e := 3) Yba.underlying60 ti3 rfl (by omega) hov11 m11 rfl rfl (by omega) (by omega) hsz11 60 #[false, false]
      have hkc : intsC (ownN os k) ++ [Value.int .i64 (k : Int)] = intsC (ownN os (k + 1)) := by rw [ownN_succ, if_pos hv]; unfold intsC; rw [List.map_append]; rfl
      have hkl : (ownN os k).length + 1 = (ownN os (k + 1)).length := by rw [ownN_succ, if_pos hv]; simp
      rw [hkc, hkl] at hov12
      refine rg ?_
      refine st0 hA (wn rfl) rfl rfl (x_mv rfl) fun a hA => ?_
      refine st0 hA (wn rfl) rfl rfl (x_mv rfl) fun a hA => ?_
      refine st hA (wn rfl) rfl rfl (x_bslice rfl ⟨w11, hr11, rfl⟩) fun a w11' hA e => ?_
      subst e
      refine st hA (wn rfl) rfl rfl (x_blt rfl ⟨w12, hr12, rfl⟩) fun a w12' hA e => ?_
      subst e
      refine st0 hA (wn rfl) rfl rfl (x_as rfl) fun a hA => ?_
      have hge : ∀ x, some x = (Value.slice q5 (ownN os k).length c5).ownBlock → w6.heap.size ≤ x := fun x e => (owns_lt hov11 e.symm).1
      refine fin0 (n_in (n_th ⟨ov', vlog', hA.pick [0, 3, 5, 8, 9, 10, 11, 34, 35, 36], (hc10.comp c1011 fun _ _ e => e.elim).comp c12 fun x hx e => ?_, (hLog10.chg c1011 id).chg c12 fun e => ?_, owns_keep hown11 c12 fun b hb e => ?_, (hC10.chg c1011 id).chg c12 fun e => ?_, hov12⟩))
      · have := hge x e
        omega
      · have := hge _ e
        omega
      · obtain ⟨_, _, cs, g3⟩ := owns_lt hov11 e.symm
        obtain ⟨_, _, cs', g4⟩ := owns_lt hown11 hb
        rw [g3] at g4
        simp at g4
      · have := hge _ e
        omega
  rintro a w13 ⟨ov', vlog', hA, h1, h2, h3, h4, h5⟩
  refine rg ?_
  refine st0 hA (wn rfl) rfl rfl (x_bin rfl rfl (add3N _ _ _ (by omega))) fun a hA => ?_
  refine st0 hA (wn rfl) rfl rfl (x_mv rfl) fun a hA => ?_
  exact fin0 (n_th ⟨m - 1, by omega, k + 1, ov', vlog', by omega, hA.pick [0, 3, 5, 8, 9, 10, 11, 34, 35, 36], h1, h2, h3, h4, h5⟩)
end Go.Proofs.Ybulkcrtu
