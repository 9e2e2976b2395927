import Derived.Test.YbulkcrtuSM
namespace Go.Proofs.Ybulkcrtu
open Go.RowKit Go.ChangeMaps Go.MapKept

/-! ### The map of the dead -/
def psOf (d1 d2 d3 d4 : Bool) : List Nat := (bif d1 then [1] else []) ++ (bif d2 then [2] else []) ++ (bif d3 then [3] else []) ++ (bif d4 then [4] else [])
def entsFrom : Nat → List Nat → List MapEntry
  | _, [] => []
  | i, p :: r => ⟨apV p, .bool true, i⟩ :: entsFrom (i + 1) r
def psD (d : Nat → Bool) : List Nat := psOf (d 1) (d 2) (d 3) (d 4)
def IsDead (w : World) (b : Nat) (d : Nat → Bool) : Prop := w.heap[b]? = some (.map (entsFrom 0 (psD d)).toArray (psD d).length)
def flag (d1 d2 d3 d4 : Bool) (q : Nat) : Bool := bif Nat.beq q 1 then d1 else bif Nat.beq q 2 then d2 else bif Nat.beq q 3 then d3 else d4
theorem find46 (d1 d2 d3 d4 : Bool) (q : Nat) (hq : q = 1 ∨ q = 2 ∨ q = 3 ∨ q = 4) (w : World) :
    (Instr.findKey 37 (apV q) (entsFrom 0 (psOf d1 d2 d3 d4))).run Yba.prog w = .ok (bif flag d1 d2 d3 d4 q then some ((psOf d1 d2 d3 d4).idxOf q, .bool true) else none) w := by
  rcases hq with rfl | rfl | rfl | rfl <;> cases d1 <;> cases d2 <;> cases d3 <;> cases d4 <;> kernel_rfl
theorem check46 (q : Int) (em : Bool) (w : World) : (Instr.checkKey em 10000 37 (apV q)).run Yba.prog w = .ok () w := by kernel_rfl
theorem flag_d (d : Nat → Bool) {q : Nat} (hq : 1 ≤ q ∧ q ≤ 4) : flag (d 1) (d 2) (d 3) (d 4) q = d q := by
  have : q = 1 ∨ q = 2 ∨ q = 3 ∨ q = 4 := by omega
  rcases this with rfl | rfl | rfl | rfl <;> rfl
theorem IsDead.look {w : World} {b : Nat} {d : Nat → Bool} (h : IsDead w b d) {q : Nat} (hq : 1 ≤ q ∧ q ≤ 4) : (Instr.lookup 46 (.map (some b)) (apV q) false).run Yba.prog w = .ok (.bool (d q)) w := by
  have hf := find46 (d 1) (d 2) (d 3) (d 4) q (by omega) w
  rw [flag_d d hq] at hf
  have hb : w.heap[b]? = some (.map (entsFrom 0 (psD d)).toArray (psD d).length) := h
  unfold psD at hb
  cases hd : d q with
  | true =>
    rw [hd] at hf
    simp [Instr.lookup, run_underlying Yba.underlying46, MapKept.run_getObj_map hb, check46, hf]
  | false =>
    rw [hd] at hf
    simp [Instr.lookup, run_underlying Yba.underlying46, MapKept.run_getObj_map hb, check46, hf]
theorem IsDead.keep {w w' : World} {b : Nat} {d : Nat → Bool} (h : IsDead w b d) (hb : w'.heap[b]? = w.heap[b]?) : IsDead w' b d := hb.trans h
theorem IsDead.lt {w : World} {b : Nat} {d : Nat → Bool} (h : IsDead w b d) : b < w.heap.size := (Array.getElem?_eq_some_iff.1 h).1
/-- The ports below q that are dead. -/
def below (d : Nat → Bool) (q : Nat) : Nat → Bool := fun j => d j && decide (j < q)
theorem ents_push (d : Nat → Bool) (q : Nat) (hq : 1 ≤ q ∧ q ≤ 4) (hd : d q = true) : (entsFrom 0 (psD (below d q))).toArray.push ⟨apV q, .bool true, (psD (below d q)).length⟩ = (entsFrom 0 (psD (below d (q + 1)))).toArray ∧ (psD (below d q)).length + 1 = (psD (below d (q + 1))).length := by
  have : q = 1 ∨ q = 2 ∨ q = 3 ∨ q = 4 := by omega
  unfold psD below
  rcases this with rfl | rfl | rfl | rfl
  · rw [hd]; cases d 2 <;> cases d 3 <;> cases d 4 <;> exact ⟨rfl, rfl⟩
  · rw [hd]; cases d 1 <;> cases d 3 <;> cases d 4 <;> exact ⟨rfl, rfl⟩
  · rw [hd]; cases d 1 <;> cases d 2 <;> cases d 4 <;> exact ⟨rfl, rfl⟩
  · rw [hd]; cases d 1 <;> cases d 2 <;> cases d 3 <;> exact ⟨rfl, rfl⟩
theorem IsDead.put {w : World} {b : Nat} {d : Nat → Bool} {q : Nat} (h : IsDead w b (below d q)) (hq : 1 ≤ q ∧ q ≤ 4) (hd : d q = true) :
    ∃ w', (Instr.mapUpdate 46 (.map (some b)) (apV q) (.bool true)).run Yba.prog w = .ok () w' ∧ Up w w' b ∧ IsDead w' b (below d (q + 1)) := by
  have hb : w.heap[b]? = some (.map (entsFrom 0 (psD (below d q))).toArray (psD (below d q)).length) := h
  have hf := find46 (below d q 1) (below d q 2) (below d q 3) (below d q 4) q (by omega) w
  rw [flag_d (below d q) hq, show below d q q = false by simp [below]] at hf
  obtain ⟨e1, e2⟩ := ents_push d q hq hd
  refine ⟨setBlock w b (.map (entsFrom 0 (psD (below d (q + 1)))).toArray (psD (below d (q + 1))).length), ?_, ⟨rfl, rfl, rfl, by simp [setBlock], fun k hk => heap_setBlock_other hb _ hk⟩, heap_setBlock_same hb _⟩
  rw [← e1, ← e2]
  have hb : w.heap[b]? = some (.map (entsFrom 0 (psOf (below d q 1) (below d q 2) (below d q 3) (below d q 4))).toArray (psOf (below d q 1) (below d q 2) (below d q 3) (below d q 4)).length) := hb
  show Sem.run Yba.prog _ w = .ok () (setBlock w b (.map ((entsFrom 0 (psOf (below d q 1) (below d q 2) (below d q 3) (below d q 4))).toArray.push ⟨apV q, .bool true, (psOf (below d q 1) (below d q 2) (below d q 3) (below d q 4)).length⟩) ((psOf (below d q 1) (below d q 2) (below d q 3) (below d q 4)).length + 1)))
  simp [Instr.mapUpdate, run_underlying Yba.underlying46, MapKept.run_getObj_map hb, check46, hf, MapKept.run_setObj_map _ hb, setBlock]
theorem IsDead.len {w : World} {b : Nat} {d : Nat → Bool} (h : IsDead w b d) (ty : TypeId) : (Builtin.len_ #[46] ty #[.map (some b)]).run Yba.prog w = .ok (.int .i64 ((psD d).length : Int)) w := by
  have hb : w.heap[b]? = some (.map (entsFrom 0 (psD d)).toArray (psD d).length) := h
  have e : (entsFrom 0 (psD d)).length = (psD d).length := by
    unfold psD
    cases d 1 <;> cases d 2 <;> cases d 3 <;> cases d 4 <;> rfl
  simp [Builtin.len_, run_underlying Yba.underlying46, MapKept.run_getObj_map hb, e, goInt]
theorem IsDead.congr {w : World} {b : Nat} {d d' : Nat → Bool} (h : IsDead w b d) (e : ∀ q, 1 ≤ q → q ≤ 4 → d q = d' q) : IsDead w b d' := by
  have : psD d = psD d' := by
    unfold psD
    rw [e 1 (by omega) (by omega), e 2 (by omega) (by omega), e 3 (by omega) (by omega), e 4 (by omega) (by omega)]
  unfold IsDead at h ⊢
  rw [← this]
  exact h

/-! ### What a call may change -/
/-- w' is w grown; blocks that meet X may have changed. -/
structure Chg (X : Nat → Prop) (w w' : World) : Prop where
  os : w'.os = w.os
  tape : w'.tape = w.tape
  output : w'.output = w.output
  size : w.heap.size ≤ w'.heap.size
  block : ∀ b, b < w.heap.size → ¬ X b → w'.heap[b]? = w.heap[b]?
theorem Chg.refl (X : Nat → Prop) (w : World) : Chg X w w := ⟨rfl, rfl, rfl, Nat.le_refl _, fun _ _ _ => rfl⟩
theorem Chg.trans {X : Nat → Prop} {a b c : World} (h : Chg X a b) (k : Chg X b c) : Chg X a c :=
  ⟨k.os.trans h.os, k.tape.trans h.tape, k.output.trans h.output, Nat.le_trans h.size k.size, fun i hi hx => (k.block i (Nat.lt_of_lt_of_le hi h.size) hx).trans (h.block i hi hx)⟩
theorem Chg.mono {X Y : Nat → Prop} {a b : World} (h : Chg X a b) (hxy : ∀ i, i < a.heap.size → X i → Y i) : Chg Y a b := ⟨h.os, h.tape, h.output, h.size, fun i hi hy => h.block i hi fun hx => hy (hxy i hi hx)⟩
theorem Chg.of_below {X : Nat → Prop} {a b : World} (h : Below a.heap.size a b) : Chg X a b := ⟨h.os, h.tape, h.output, h.size, fun i hi _ => h.block i hi⟩
theorem Chg.of_up {X : Nat → Prop} {a b : World} {i : Nat} (h : Up a b i) (hi : X i) : Chg X a b := ⟨h.os, h.tape, h.output, by rw [h.size]; exact Nat.le_refl _, fun j _ hx => h.block j fun e => hx (e ▸ hi)⟩
theorem Chg.drew {X : Nat → Prop} {a b : World} (h : Chg X a b) : Chg X a b.drew := ⟨h.os, h.tape, h.output, h.size, h.block⟩
theorem Row.chg {w w' : World} {b t n : Nat} {g : Nat → Value} (h : Row w b t n g) {X : Nat → Prop} (hc : Chg X w w') (hx : ¬ X b) : Row w' b t n g := h.keep (hc.block b h.lt hx)
theorem MapK.chg {kt : TypeId} {α : Type} {K : KeyS kt α} {w w' : World} {b n sz : Nat} {f : α → Option Value} (h : MapK K w b n sz f) {X : Nat → Prop} (hc : Chg X w w') (hx : ¬ X b) : MapK K w' b n sz f := h.keep (hc.block b h.lt hx)
theorem IsDead.chg {w w' : World} {b : Nat} {d : Nat → Bool} (h : IsDead w b d) {X : Nat → Prop} (hc : Chg X w w') (hx : ¬ X b) : IsDead w' b d := h.keep (hc.block b h.lt hx)
/-- A map and a row are not one block. -/
theorem row_ne_map {w : World} {b c t n : Nat} {g : Nat → Value} (h : Row w b t n g) (hm : ∃ es k, w.heap[c]? = some (.map es k)) : b ≠ c := by
  rintro rfl
  obtain ⟨cs, h, _⟩ := h
  obtain ⟨es, k, hm⟩ := hm
  rw [h] at hm
  cases hm

/-! ### keepUnheard -/
theorem row_route {w : World} {b t : Nat} {k : Nat} {p : Int} (h : Row w b t 36 (fun i => (routeC k p).getD i undef)) :
    (Instr.loadAt 55 (.pointer (some ⟨b, 0, none⟩))).run Yba.prog w = .ok (routeV k p) w ∧ (Instr.loadAt 40 (.pointer (some ⟨b, 0, none⟩))).run Yba.prog w = .ok (keyV k) w ∧ (Instr.loadAt 37 (.pointer (some ⟨b, 0 + 32, none⟩))).run Yba.prog w = .ok (apV p) w := by
  refine ⟨h.load (routeC k p) Yba.underlying55 rfl (by rw [routeC_len]; exact info55) fun j v hj => ?_, h.load (keyC k) Yba.underlying40 rfl info40 fun j v hj => ?_, h.load (apC p) Yba.underlying37 rfl info37 fun j v hj => ?_⟩
  · have := lt_cells hj
    rw [routeC_len] at this
    exact ⟨by omega, by rw [Nat.zero_add]; exact getD_cells hj⟩
  · have := lt_cells hj
    rw [keyC_len] at this
    refine ⟨by omega, ?_⟩
    have e := getD_mid [] (keyC k) (apC p) hj
    rw [List.nil_append, List.length_nil] at e
    exact e
  · have := lt_cells hj
    simp only [apC, List.length_cons, List.length_nil] at this
    refine ⟨by omega, ?_⟩
    have e := getD_mid (keyC k) (apC p) [] hj
    rw [List.append_nil, keyC_len] at e
    exact e
set_option maxRecDepth 100000 in
theorem keep_unheard (b k n sz : Nat) (p : LkP) (q : Int) (f : Nat → Option Value) (w : World) (hk : k ≤ 255) (hl : p.lo ≤ 255) (hw : p.wd ≤ 255) (hn : n < 100000) (hL : Lk w b p) (hM : MapK K40 w p.unheard n sz f) :
    Calls Yba.prog 23 #[.pointer (some ⟨b, 0, none⟩), routeV k q] w fun e w' => e = .returned (.tuple #[]) ∧ Chg (· = p.unheard) w w' ∧
      (inR p.lo p.wd k = true → MapK K40 w' p.unheard (n + 1) (if (f k).isSome then sz else sz + 1) (putK f k (apV q))) ∧ (inR p.lo p.wd k = false → MapK K40 w' p.unheard n sz f) := by
  refine enter (args := [.pointer (some ⟨b, 0, none⟩), routeV k q]) Yba.func23 rfl 16 Yba.ntmps23 rfl fun a hA => ?_
  refine sq ?_
  refine st hA (wn rfl) rfl rfl (x_box rfl (mk_box (routeC k q) _)) fun a w1 hA m1 => ?_
  refine fin ?_
  have r1 : Row w1 w.heap.size 55 36 (fun i => (routeC k q).getD i undef) := by have := m1.row; rw [routeC_len] at this; exact this
  have hL1 := hL.below m1.1 hL.lt
  have hM1 := hM.below m1.1 hM.lt
  refine sq ?_
  refine st0 hA (wn rfl) rfl rfl (x_mv rfl) fun a hA => ?_
  refine st0 hA (wn rfl) rfl rfl (x_fld rfl (fld55_0 _ _ _)) fun a hA => ?_
  refine st0 hA (wn rfl) rfl rfl (x_load rfl (row_route r1).2.1) fun a hA => ?_
  refine st hA (wn rfl) rfl rfl (x_call (cap := []) rfl rfl c22 (in_range b k p w1 hk hl hw hL1)) fun a w2 hA b2 => ?_
  refine fin ?_
  have r2 := r1.below b2 r1.lt
  have hL2 := hL1.below b2 hL1.lt
  have hM2 := hM1.below b2 hM1.lt
  have c2 : Chg (· = p.unheard) w w2 := (Chg.of_below m1.1).trans (Chg.of_below b2)
  cases hi : inR p.lo p.wd k with
  | false =>
    rw [hi] at hA
    exact cdfz hA rfl (rte hA rfl ⟨rfl, c2, fun h => (by cases h), fun _ => hM2⟩)
  | true =>
    rw [hi] at hA
    refine cdt hA rfl ?_
    have hM2' : MapK K40 w2.drew p.unheard n sz f := hM2
    refine drawn_last [.pointer (some ⟨b, 0, none⟩), .pointer (some ⟨b, 0, none⟩), .pointer (some ⟨b, 0 + 106, none⟩), .map (some p.unheard), .pointer (some ⟨w.heap.size, 0, none⟩), keyV k, .pointer (some ⟨w.heap.size, 0 + 32, none⟩), apV q, undef] 8 (· = w2.drew)
      (fun w' => Up w2.drew w' p.unheard ∧ MapK K40 w' p.unheard (n + 1) (if (f k).isSome then sz else sz + 1) (putK f k (apV q))) (hA.pick [0, 3]) mixed rfl rfl rfl rfl ?_ ?_
    · refine each_cons (do0 rfl [] rfl (wn rfl) fun w hS => (x_mv rfl)) ?_
      refine each_cons (do0 rfl [(8, 0)] rfl (wn rfl) fun w hS => (x_nil rfl)) ?_
      refine each_cons (do0 rfl [(9, 1)] rfl (wn rfl) fun w hS => (x_fld rfl (fld49_10 _ _ _))) ?_
      refine each_cons (do0 rfl [(10, 2)] rfl (wn rfl) fun w hS => (x_load rfl (by subst hS; exact Lk.one (w := w2.drew) hL2 ag43 6 _ (by omega) rfl))) ?_
      refine each_cons (do0 rfl [] rfl (wn rfl) fun w hS => (x_fld rfl (fld55_0 _ _ _))) ?_
      refine each_cons (do0 rfl [(12, 4)] rfl (wn rfl) fun w hS => (x_load rfl (by subst hS; exact (row_route (w := w2.drew) r2).2.1))) ?_
      refine each_cons (do0 rfl [] rfl (wn rfl) fun w hS => (x_fld rfl (fld55_1 _ _ _))) ?_
      refine each_cons (do0 rfl [(14, 6)] rfl (wn rfl) fun w hS => (x_load rfl (by subst hS; exact (row_route (w := w2.drew) r2).2.2))) ?_
      refine each_cons (do1 rfl [(11, 3), (13, 5), (15, 7)] rfl (wn rfl) fun w hS => (x_mapup rfl rfl rfl (by subst hS; exact hM2'.update Yba.underlying43 (by unfold maxLen; omega) hk (apV q)))) ?_
      exact each_nil
    · intro a w' hA ⟨hu, hm⟩
      exact rte hA rfl ⟨rfl, (c2.drew).trans (Chg.of_up hu rfl), fun _ => hm, fun h => (by cases h)⟩
end Go.Proofs.Ybulkcrtu
