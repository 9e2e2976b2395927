import Derived.Test.YbulkcrtuSN
namespace Go.Proofs.Ybulkcrtu
open Go.RowKit Go.ChangeMaps Go.MapKept

/-! ### Slices that grow -/
theorem tinfo {e : TypeId} {z : Value} {size bytes : Nat} (h : (Yba.prog.info? e).map (fun i => (i.zero, i.size, i.bytes)) = some (some z, size, bytes)) : ∃ i, Yba.prog.info? e = some i ∧ i.zero = some z ∧ i.size = size ∧ i.bytes = bytes := by
  cases hi : Yba.prog.info? e with
  | none => rw [hi] at h; simp at h
  | some i =>
    rw [hi] at h
    simp only [Option.map_some, Option.some.injEq, Prod.mk.injEq] at h
    exact ⟨i, rfl, h.1, h.2.1, h.2.2⟩
theorem ti3 : (Yba.prog.info? 3).map (fun i => (i.zero, i.size, i.bytes)) = some (some (.int .i64 0), 1, 8) := by kernel_rfl
theorem ti55 : (Yba.prog.info? 55).map (fun i => (i.zero, i.size, i.bytes)) = some (some (routeV 0 0), 36, 64) := by kernel_rfl
theorem ti37 : (Yba.prog.info? 37).map (fun i => (i.zero, i.size, i.bytes)) = some (some (apV 0), 4, 32) := by kernel_rfl
theorem ti65 : (Yba.prog.info? 65).map (fun i => (i.zero, i.size, i.bytes)) = some (some (pairV 0 0), 64, 64) := by kernel_rfl
theorem ti4 : (Yba.prog.info? 4).map (fun i => (i.zero, i.size, i.bytes)) = some (some (.bool false), 1, 1) := by kernel_rfl
theorem mk_bs60 (n : Int) (w : World) : ∃ w', (Instr.buildSlice 60 1 #[(0, .int .i64 n)]).run Yba.prog w = .ok (.slice (some ⟨w.heap.size, 0, none⟩) 1 1) w' ∧ Made w w' 3 [.int .i64 n] := ⟨w.alloc (.cells [Value.int .i64 n].toArray 3), by kernel_rfl, made w _ 3⟩
theorem mk_bs53 (k : Nat) (p : Int) (w : World) : ∃ w', (Instr.buildSlice 53 1 #[(0, routeV k p)]).run Yba.prog w = .ok (.slice (some ⟨w.heap.size, 0, none⟩) 1 1) w' ∧ Made w w' 55 (routeC k p) := ⟨w.alloc (.cells (routeC k p).toArray 55), by kernel_rfl, made w _ 55⟩
theorem mk_bs66 (p : Int) (w : World) : ∃ w', (Instr.buildSlice 66 1 #[(0, apV p)]).run Yba.prog w = .ok (.slice (some ⟨w.heap.size, 0, none⟩) 1 1) w' ∧ Made w w' 37 (apC p) := ⟨w.alloc (.cells (apC p).toArray 37), by kernel_rfl, made w _ 37⟩
theorem mk_bs64 (a b : Nat) (w : World) : ∃ w', (Instr.buildSlice 64 1 #[(0, pairV a b)]).run Yba.prog w = .ok (.slice (some ⟨w.heap.size, 0, none⟩) 1 1) w' ∧ Made w w' 65 (pairC a b) := ⟨w.alloc (.cells (pairC a b).toArray 65), by kernel_rfl, made w _ 65⟩
theorem grown_chg {w w' : World} {r : Option Nat} (h : w.grownBy w' r) : Chg (fun b => some b = r) w w' := by
  obtain ⟨h1, h2, h3, h4, h5⟩ := h
  exact ⟨h1, h2, h3, h4, fun b hb hx => h5 b hb hx⟩
/-- append of one element. -/
theorem app1 {t e size bytes : Nat} {z : Value} (ht : Yba.prog.underlying t = some (.slice e)) (hti : (Yba.prog.info? e).map (fun i => (i.zero, i.size, i.bytes)) = some (some z, size, bytes)) (hz : z.cells.size = size) (hs : 0 < size)
    {w0 w : World} {base n : Nat} {v : Value} {xs news : List Value} (hown : w.ownsRow base e size v n xs) (hM : Made w0 w e news) (hl : news.length = size) (h1 : news.all (·.oneCell') = true) (hn : n + 1 ≤ 100000) (hb : bytes ≤ 1000) (hbase : base ≤ w.heap.size) (ty : TypeId) (cs : Array Bool) :
    ∃ v' w', Blt .append #[t, t] ty cs #[v, .slice (some ⟨w0.heap.size, 0, none⟩) 1 1] w v' w' ∧ w'.ownsRow base e size v' (n + 1) (xs ++ news) ∧ Chg (fun b => some b = v.ownBlock) w w' := by
  obtain ⟨i, hi, h2, h3, h4⟩ := tinfo hti
  have hmul : (n + 1) * bytes ≤ 100000 * 1000 := Nat.mul_le_mul hn hb
  obtain ⟨v', w', hr, ho, hg, _⟩ := run_append_own (P := Yba.prog) w base t ty e i z size bytes ht hi h2 h3 h4 hz hs v n xs hown ⟨w0.heap.size, 0, none⟩ 1 1 news (by omega)
    (fun j u hu => by rw [Addr.add_mid, Nat.zero_add, hM.row.cell (lt_cells hu)]; exact congrArg some (getD_cells hu)) (fun u hu => (List.all_eq_true.1 h1) u hu) (by unfold maxLen; omega) (by omega) hbase
  refine ⟨v', w', ?_, ho, grown_chg hg⟩
  unfold Blt
  simp only [builtin, Sem.run_bind, hr, Result.andThen_ok, Sem.run_pure]
theorem owns_keep {w w' : World} {base e size n : Nat} {v : Value} {xs : List Value} (h : w.ownsRow base e size v n xs) {X : Nat → Prop} (hc : Chg X w w') (hx : ∀ b, v.ownBlock = some b → ¬ X b) : w'.ownsRow base e size v n xs := by
  obtain ⟨h1, h2 | ⟨g, cap, cur, rfl, h3, h4, h5⟩⟩ := h
  · exact ⟨h1, .inl h2⟩
  · refine ⟨h1, .inr ⟨g, cap, cur, rfl, h3, ?_, h5⟩⟩
    rw [hc.block g (Array.getElem?_eq_some_iff.1 h4).1 (hx g rfl)]
    exact h4
theorem owns_lt {w : World} {base e size n g : Nat} {v : Value} {xs : List Value} (h : w.ownsRow base e size v n xs) (hg : v.ownBlock = some g) : base ≤ g ∧ g < w.heap.size ∧ ∃ cs, w.heap[g]? = some (.cells cs e (0, 0)) := by
  obtain ⟨h1, ⟨rfl, _⟩ | ⟨g', cap, cur, rfl, h3, h4, h5⟩⟩ := h
  · simp [Value.ownBlock] at hg
  · simp only [Value.ownBlock, Option.some.injEq] at hg
    subst hg
    exact ⟨h3, (Array.getElem?_eq_some_iff.1 h4).1, _, h4⟩
/-- A row of another type is not the slice's block. -/
theorem row_ne_own {w : World} {base e size n b t m : Nat} {v : Value} {xs : List Value} {g : Nat → Value} (h : w.ownsRow base e size v n xs) (hr : Row w b t m g) (ht : t ≠ e) : some b ≠ v.ownBlock := by
  intro hg
  obtain ⟨_, _, cs, hc⟩ := owns_lt h hg.symm
  obtain ⟨cs', hc', _⟩ := hr
  rw [hc] at hc'
  simp only [Option.some.injEq, Obj.cells.injEq] at hc'
  exact ht hc'.2.1.symm
theorem map_ne_own {w : World} {base e size n b : Nat} {v : Value} {xs : List Value} (h : w.ownsRow base e size v n xs) (hr : ∃ es k, w.heap[b]? = some (.map es k)) : some b ≠ v.ownBlock := by
  intro hg
  obtain ⟨_, _, cs, hc⟩ := owns_lt h hg.symm
  obtain ⟨es, k, hr⟩ := hr
  rw [hc] at hr
  cases hr

/-! ### vouch -/
/-- The slice v holds the bools os. -/
def Bools (w : World) (v : Value) (os : List Bool) : Prop := ∃ p c, v = .slice p os.length c ∧ ∀ k x, os[k]? = some x → ∃ b o, p = some ⟨b, o, none⟩ ∧ w.cell? ⟨b, o + k, none⟩ = some (.bool x)
theorem Bools.below {w w' : World} {v : Value} {xs : List Bool} (h : Bools w v xs) {B : Nat} (hlt : ∀ b o n c, v = .slice (some ⟨b, o, none⟩) n c → b < B) (hb : Below B w w') : Bools w' v xs := by
  obtain ⟨p, c, rfl, h2⟩ := h
  refine ⟨p, c, rfl, fun k x hk => ?_⟩
  obtain ⟨b, o, rfl, h4⟩ := h2 k x hk
  exact ⟨b, o, rfl, by rw [hb.cell (hlt b o _ _ rfl)]; exact h4⟩
theorem Bools.chg {w w' : World} {v : Value} {xs : List Bool} (h : Bools w v xs) {X : Nat → Prop} (hc : Chg X w w') (hx : ∀ b o n c, v = .slice (some ⟨b, o, none⟩) n c → ¬ X b) : Bools w' v xs := by
  obtain ⟨p, c, rfl, h2⟩ := h
  refine ⟨p, c, rfl, fun k x hk => ?_⟩
  obtain ⟨b, o, rfl, h4⟩ := h2 k x hk
  refine ⟨b, o, rfl, ?_⟩
  rw [World.cell?_of_block (hc.block b (World.block_lt_of_cell? w _ h4) (hx b o _ _ rfl))]
  exact h4
def vouchV (bLog bCalls bOwn : Nat) : Value := .func (.func 8) #[] #[.pointer (some ⟨bLog, 0, none⟩), .pointer (some ⟨bCalls, 0, none⟩), .pointer (some ⟨bOwn, 0, none⟩)]
theorem c8 : Callable 8 := ⟨_, Yba.func8, by kernel_rfl, rfl⟩
set_option maxRecDepth 100000 in
theorem vouch_any (bLog bCalls bOwn base k n : Nat) (p : Int) (vlog vown : Value) (xs : List Value) (os : List Bool) (w : World) (hn : n ≤ 1000)
    (hLog : Row w bLog 53 1 (fun _ => vlog)) (hown : w.ownsRow base 55 36 vlog n xs) (hC : Row w bCalls 3 1 (fun _ => .int .i64 n)) (hO : Row w bOwn 23 1 (fun _ => vown)) (hB : Bools w vown os) (hbase : base ≤ w.heap.size)
    (hlow : ∀ b o n c, vown = .slice (some ⟨b, o, none⟩) n c → b < base ∧ b ≠ bLog ∧ b ≠ bCalls) :
    Calls Yba.prog 8 #[routeV k p, .pointer (some ⟨bLog, 0, none⟩), .pointer (some ⟨bCalls, 0, none⟩), .pointer (some ⟨bOwn, 0, none⟩)] w fun e w' => e = .returned (.bool (os.getD n false)) ∧
      Chg (fun b => b = bLog ∨ b = bCalls ∨ some b = vlog.ownBlock) w w' ∧ ∃ vlog', Row w' bLog 53 1 (fun _ => vlog') ∧ w'.ownsRow base 55 36 vlog' (n + 1) (xs ++ routeC k p) ∧ Row w' bCalls 3 1 (fun _ => .int .i64 ((n + 1 : Nat) : Int)) := by
  have hne : bLog ≠ bCalls := by
    rintro rfl
    obtain ⟨c1, h1, _⟩ := hLog
    obtain ⟨c2, h2, _⟩ := hC
    rw [h1] at h2
    simp at h2
  have hne2 : bOwn ≠ bLog := by
    rintro rfl
    obtain ⟨c1, h1, _⟩ := hLog
    obtain ⟨c2, h2, _⟩ := hO
    rw [h1] at h2
    simp at h2
  have hne3 : bOwn ≠ bCalls := by
    rintro rfl
    obtain ⟨c1, h1, _⟩ := hO
    obtain ⟨c2, h2, _⟩ := hC
    rw [h1] at h2
    simp at h2
  have hso : ∃ q c, vlog = .slice q n c := by
    obtain ⟨_, ⟨rfl, rfl⟩ | ⟨g, cap, cur, rfl, _⟩⟩ := id hown
    · exact ⟨none, 0, rfl⟩
    · exact ⟨_, _, rfl⟩
  refine enter (args := [routeV k p, .pointer (some ⟨bLog, 0, none⟩), .pointer (some ⟨bCalls, 0, none⟩), .pointer (some ⟨bOwn, 0, none⟩)]) Yba.func8 rfl 24 Yba.ntmps8 rfl fun a hA => ?_
  refine sq ?_
  refine st hA (wn rfl) rfl rfl (x_box rfl (mk_box (routeC k p) _)) fun a w1 hA m1 => ?_
  refine st0 hA (wn rfl) rfl rfl (x_as rfl) fun a hA => ?_
  refine fin ?_
  have r1 : Row w1 w.heap.size 55 36 (fun i => (routeC k p).getD i undef) := by have := m1.row; rw [routeC_len] at this; exact this
  have hLog1 := hLog.below m1.1 hLog.lt
  refine sq ?_
  refine st0 hA (wn rfl) rfl rfl (x_load rfl (hLog1.load1 ag53 (by omega))) fun a hA => ?_
  refine st0 hA (wn rfl) rfl rfl (x_load rfl (row_route r1).1) fun a hA => ?_
  refine st hA (wn rfl) rfl rfl (x_bslice rfl (mk_bs53 k p w1)) fun a w2 hA m2 => ?_
  have c12 : Chg (fun _ => False) w w2 := (Chg.of_below m1.1).trans (Chg.of_below m2.1)
  have hown2 := owns_keep hown c12 (fun _ _ h => h)
  have hsz : w.heap.size ≤ w2.heap.size := c12.size
  obtain ⟨v', w3, hbl, hown3, c3⟩ := app1 (t := 53) (e := 55) Yba.underlying53 ti55 (by rw [show (routeV 0 0).cells.size = (routeC 0 0).length from rfl, routeC_len]) (by omega) hown2 m2 (routeC_len _ _) (routeC_one _ _) (by omega) (by omega) (by omega) 53 #[false, false]
  refine st hA (wn rfl) rfl rfl (x_blt rfl ⟨w3, hbl, rfl⟩) fun a w3' hA e3 => ?_
  subst e3
  have hLog3 : Row w3 bLog 53 1 (fun _ => vlog) := (hLog.chg c12 (fun h => h)).chg c3 (row_ne_own hown2 (hLog.chg c12 (fun h => h)) (by decide))
  have hC3 : Row w3 bCalls 3 1 (fun _ => .int .i64 n) := (hC.chg c12 (fun h => h)).chg c3 (row_ne_own hown2 (hC.chg c12 (fun h => h)) (by decide))
  have hO3 : Row w3 bOwn 23 1 (fun _ => vown) := (hO.chg c12 (fun h => h)).chg c3 (row_ne_own hown2 (hO.chg c12 (fun h => h)) (by decide))
  have hv1 : v'.oneCell' = true := by
    obtain ⟨_, ⟨rfl, _⟩ | ⟨g, cap, cur, rfl, _⟩⟩ := id hown3
    · rfl
    · rfl
  refine stn hA (wn rfl) rfl (x_store rfl rfl (hLog3.store1 v' sz53 hv1 (by omega))) fun w4 ⟨u4, r4⟩ => ?_
  refine fin ?_
  have hC4 := hC3.up u4 (fun e => hne e.symm)
  have hO4 := hO3.up u4 hne2
  have r4' : Row w4 bLog 53 1 (fun _ => v') := r4.ext fun i hi => by rw [if_pos (by omega)]
  refine sq ?_
  refine st0 hA (wn rfl) rfl rfl (x_load rfl (hC4.load1 ag3 (by omega))) fun a hA => ?_
  refine st0 hA (wn rfl) rfl rfl (x_as rfl) fun a hA => ?_
  refine fin ?_
  refine sq ?_
  refine st0 hA (wn rfl) rfl rfl (x_load rfl (hC4.load1 ag3 (by omega))) fun a hA => ?_
  refine st0 hA (wn rfl) rfl rfl (x_bin rfl rfl (add3 _ _ _ _ (by omega) (by omega))) fun a hA => ?_
  refine stn hA (wn rfl) rfl (x_store rfl rfl (hC4.store1 _ sz3 rfl (by omega))) fun w5 ⟨u5, r5⟩ => ?_
  refine fin ?_
  have hO5 := hO4.up u5 hne3
  have hLog5 := r4'.up u5 hne
  have r5' : Row w5 bCalls 3 1 (fun _ => .int .i64 ((n + 1 : Nat) : Int)) := r5.ext fun i hi => by rw [if_pos (by omega)]; rfl
  have call : Chg (fun b => b = bLog ∨ b = bCalls ∨ some b = vlog.ownBlock) w w5 :=
    (((c12.mono fun i _ h => h.elim).trans (c3.mono fun i _ h => .inr (.inr h))).trans (Chg.of_up u4 (.inl rfl))).trans (Chg.of_up u5 (.inr (.inl rfl)))
  have hown5 : w5.ownsRow base 55 36 v' (n + 1) (xs ++ routeC k p) := by
    refine owns_keep (owns_keep hown3 (Chg.of_up (X := (· = bLog)) u4 rfl) fun b hb e => ?_) (Chg.of_up (X := (· = bCalls)) u5 rfl) fun b hb e => ?_
    · subst e
      exact row_ne_own hown3 hLog3 (by decide) hb.symm
    · subst e
      exact row_ne_own hown3 hC3 (by decide) hb.symm
  have hB5 : Bools w5 vown os := by
    refine hB.chg call fun b o m c e => ?_
    obtain ⟨h1, h2, h3⟩ := hlow b o m c e
    rintro (h | h | h)
    · exact h2 h
    · exact h3 h
    · have := (owns_lt hown h.symm).1
      omega
  obtain ⟨q, cq, rfl, hcell⟩ := hB5
  refine sq ?_
  refine st0 hA (wn rfl) rfl rfl (x_mv rfl) fun a hA => ?_
  refine st0 hA (wn rfl) rfl rfl (x_load rfl (hO5.load1 ag23 (by omega))) fun a hA => ?_
  refine st0 hA (wn rfl) rfl rfl (x_len rfl Yba.underlying23) fun a hA => ?_
  by_cases hlt : n < os.length
  · obtain ⟨x, hx⟩ : ∃ x, os[n]? = some x := ⟨_, List.getElem?_eq_getElem hlt⟩
    obtain ⟨b, o, rfl, hc⟩ := hcell n x hx
    refine st0 hA (wn rfl) rfl rfl (x_bin rfl rfl (lss3T _ _ _ _ (by omega))) fun a hA => ?_
    refine st0 hA (wn rfl) rfl rfl (x_mv rfl) fun a hA => ?_
    refine st0 hA (wy rfl rfl rfl) rfl rfl (x_load rfl (hO5.load1 ag23 (by omega))) fun a hA => ?_
    refine st0 hA (wy rfl rfl rfl) rfl rfl (x_mv rfl) fun a hA => ?_
    refine st0 hA (wy rfl rfl rfl) rfl rfl (x_idx rfl rfl (idxS _ _ _ _ _ _ Yba.underlying23 sz4 hlt)) fun a hA => ?_
    refine st0 hA (wy rfl rfl rfl) rfl rfl (x_load rfl (load_cell ag4 _ _ _ (by rw [Nat.mul_one]; exact hc))) fun a hA => ?_
    refine st0 hA (wn rfl) rfl rfl (x_pick rfl rfl) fun a hA => ?_
    refine st0 hA (wn rfl) rfl rfl (x_as rfl) fun a hA => ?_
    refine fin ?_
    refine wp_ret (rt hA rfl rfl ⟨?_, call, v', hLog5, hown5, r5'⟩)
    rw [List.getD_eq_getElem?_getD, hx]
    rfl
  · refine st0 hA (wn rfl) rfl rfl (x_bin rfl rfl (lss3F _ _ _ _ (by omega))) fun a hA => ?_
    refine st0 hA (wn rfl) rfl rfl (x_mv rfl) fun a hA => ?_
    refine sts hA (sh rfl rfl rfl rfl) rfl rfl fun a hA => ?_
    refine sts hA (sh rfl rfl rfl rfl) rfl rfl fun a hA => ?_
    refine sts hA (sh rfl rfl rfl rfl) rfl rfl fun a hA => ?_
    refine sts hA (sh rfl rfl rfl rfl) rfl rfl fun a hA => ?_
    refine st0 hA (wn rfl) rfl rfl (x_pick rfl rfl) fun a hA => ?_
    refine st0 hA (wn rfl) rfl rfl (x_as rfl) fun a hA => ?_
    refine fin ?_
    refine wp_ret (rt hA rfl rfl ⟨?_, call, v', hLog5, hown5, r5'⟩)
    rw [List.getD_eq_getElem?_getD, List.getElem?_eq_none (by omega)]
    rfl
end Go.Proofs.Ybulkcrtu
