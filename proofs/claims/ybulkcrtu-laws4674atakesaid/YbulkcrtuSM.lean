import Derived.Test.YbulkcrtuSL
import Derived.LaidEqlPtr
namespace Go.Proofs.Ybulkcrtu
open Go.RowKit Go.ChangeMaps Go.MapKept
open Go.WideElems (Fit)
open Go.Maps (Keyed)

theorem pw_unique {α β : Type} (f : α → β) : ∀ l : List α, l.Pairwise (fun x y => f x ≠ f y) → ∀ x ∈ l, ∀ y ∈ l, f x = f y → x = y
  | [], _, x, hx, _, _, _ => by cases hx
  | a :: r, h, x, hx, y, hy, e => by
    rw [List.pairwise_cons] at h
    rcases List.mem_cons.1 hx with rfl | hx'
    · rcases List.mem_cons.1 hy with rfl | hy
      · rfl
      · exact absurd e (h.1 y hy)
    · rcases List.mem_cons.1 hy with rfl | hy
      · exact absurd e.symm (h.1 x hx')
      · exact pw_unique f r h.2 x hx' y hy e
/-- 'm[k] op= ..': the entry is taken hold of, and written later. -/
theorem MapK.entry {kt : TypeId} {α : Type} {K : KeyS kt α} [DecidableEq α] {w : World} {b n sz : Nat} {f : α → Option Value} (h : MapK K w b n sz f) {t e : TypeId} (ht : Yba.prog.underlying t = some (.map kt e)) {z : Value} (hz : ∀ u : World, (zeroValue e).run Yba.prog u = .ok z u) (hn : n < maxLen) {g : α} (hg : K.ok g) :
    ∃ (st : Nat) (w1 : World), (Instr.mapEntry t (.map (some b)) (K.val g)).run Yba.prog w = .ok (.tuple #[(f g).getD z, goInt st]) w1 ∧ Up w w1 b ∧ (∃ es c, w1.heap[b]? = some (.map es c)) ∧
      ∀ (w2 : World) (v : Value), w2.heap[b]? = w1.heap[b]? → ∃ w3, (Instr.entryStore t (.map (some b)) (goInt st) v).run Yba.prog w2 = .ok () w3 ∧ Up w2 w3 b ∧ MapK K w3 b (n + 1) (if (f g).isSome then sz else sz + 1) (putK f g v) := by
  have hL := h.look ht (hz w) hg
  have hU := fun v => h.update ht hn hg v
  obtain ⟨D, ⟨es, clock, hb, F, _, rfl⟩, r⟩ := h
  obtain ⟨v0, st, es1, c1, hrun, hv0, hst⟩ := WideElems.entry_then_store K.law ht hz hb F (K.hkey g hg)
  have keyed := Keyed.of_law K.law
  have hv : v0 = (f g).getD z := by
    rcases Maps.fit_look false keyed ht (hz w) hb F (K.hkey g hg) with ⟨hl, hno, _⟩ | ⟨e0, y, hm, hk, hl, _⟩
    · have e1 : (f g).getD z = z := by
        rw [hL] at hl
        simpa using hl
      rcases hv0 with ⟨e', hm', hk', _⟩ | ⟨_, hz'⟩
      · exact absurd hk' (hno e' hm')
      · rw [e1, hz']
    · have e1 : (f g).getD z = e0.val := by
        rw [hL] at hl
        simpa using hl
      rcases hv0 with ⟨e', hm', hk', hv'⟩ | ⟨hno, _⟩
      · have hap := Maps.fit_apart keyed F
        rw [List.pairwise_map] at hap
        have hrg : ∀ x ∈ es.toList, x.key = K.val g → (WideElems.rg Yba.prog kt RV x).1 = K.lit g := by
          intro x hx hxk
          obtain ⟨y, hy⟩ := F.reads x hx
          have := WideElems.rd_key hy
          rw [hxk, K.hkey g hg] at this
          simp only [WideElems.rg, hy, Option.getD_some]
          exact (Option.some.inj this).symm
        have := pw_unique (fun x => (WideElems.rg Yba.prog kt RV x).1) es.toList hap e' hm' e0 hm ((hrg e' hm' hk').trans (hrg e0 hm hk).symm)
        rw [e1, hv', this]
      · exact absurd hk (hno e0 hm)
  have hb1 : (setBlock w b (.map es1 c1)).heap[b]? = some (.map es1 c1) := heap_setBlock_same hb _
  refine ⟨st, setBlock w b (.map es1 c1), by rw [← hv]; exact hrun, ⟨rfl, rfl, rfl, by simp [setBlock], fun k hk => heap_setBlock_other hb _ hk⟩, ⟨_, _, hb1⟩, fun w2 v hw2 => ?_⟩
  have hw2' : w2.heap[b]? = some (.map es1 c1) := hw2.trans hb1
  obtain ⟨es', c', hr1, hr2⟩ := hst w2 v hw2'
  refine ⟨_, hr1, ⟨rfl, rfl, rfl, by simp [setBlock], fun k hk => heap_setBlock_other hw2' _ hk⟩, ?_⟩
  obtain ⟨w', hr3, _, hM⟩ := hU v
  rw [hr2] at hr3
  obtain rfl : setBlock w b (.map es' c') = w' := by simpa using hr3
  exact hM.keep ((heap_setBlock_same hw2' _).trans (heap_setBlock_same hb _).symm)
section
variable {l : List (Nat × Value)} {w : World} {dz : Option Tmp} {ty : TypeId} {pz : String} {af : Array Edge} {gz : Option (Nat × Bool)}
set_option maxRecDepth 100000 in
theorem x_mapentry {t : TypeId} {m x : Operand} {pm pk v : Value} {T : World → Prop} (hm : ev l m = some pm) (hx : ev l x = some pk) (hs : ∃ w', (Instr.mapEntry t pm pk).run Yba.prog w = .ok v w' ∧ T w') : Goes l ⟨dz, .mapEntry t m x, ty, pz, af, gz⟩ w v T := by
  obtain ⟨w', hr, hT⟩ := hs
  refine g_run (w' := w') (fun a N hA => ?_) hT
  unfold execOp
  simp only [hA.ev hm, hA.ev hx]
  rw [Sem.run_bind, hr]
  rfl
set_option maxRecDepth 100000 in
theorem x_estore {t : TypeId} {m x y : Operand} {pm pk v : Value} {T : World → Prop} (hm : ev l m = some pm) (hx : ev l x = some pk) (hy : ev l y = some v) (hs : ∃ w', (Instr.entryStore t pm pk v).run Yba.prog w = .ok () w' ∧ T w') : Goes l ⟨dz, .entryStore t m x y, ty, pz, af, gz⟩ w undef T := fun a N hA K Q hK => by
  obtain ⟨w', hr, hT⟩ := hs
  unfold Oper.wp execOp
  simp only [hA.ev hm, hA.ev hx, hA.ev hy]
  rw [Sem.run_bind, hr]
  exact hK _ hT
set_option maxRecDepth 100000 in
theorem x_mkfunc {fn : Fn} {xs : List Operand} {vs : List Value} (hx : evs l xs = some vs) : Goes l ⟨dz, .makeFunc fn #[] xs.toArray, ty, pz, af, gz⟩ w (.func fn #[] vs.toArray) (· = w) := by
  refine g_run (w' := w) (fun a N hA => ?_) rfl
  have e : (xs.toArray.map a.eval) = vs.toArray := by simpa using congrArg List.toArray (hA.evs hx)
  unfold execOp
  simp only [e]
  simp [go_sem, Instr.makeFunc]
set_option maxRecDepth 100000 in
theorem x_mkmap {t : TypeId} {v : Value} {T : World → Prop} (hs : ∃ w', (Instr.makeMap t none).run Yba.prog w = .ok v w' ∧ T w') : Goes l ⟨dz, .makeMap t none, ty, pz, af, gz⟩ w v T := by
  obtain ⟨w', hr, hT⟩ := hs
  refine g_run (w' := w') (fun a N hA => ?_) hT
  unfold execOp
  simp only [Option.map_none]
  rw [Sem.run_bind, hr]
  rfl
set_option maxRecDepth 100000 in
theorem x_mkslice {t : TypeId} {x y : Operand} {vx vy v : Value} {T : World → Prop} (hx : ev l x = some vx) (hy : ev l y = some vy) (hs : ∃ w', (Instr.makeSlice t vx vy).run Yba.prog w = .ok v w' ∧ T w') : Goes l ⟨dz, .makeSlice t x y, ty, pz, af, gz⟩ w v T := by
  obtain ⟨w', hr, hT⟩ := hs
  refine g_run (w' := w') (fun a N hA => ?_) hT
  unfold execOp
  simp only [hA.ev hx, hA.ev hy]
  rw [Sem.run_bind, hr]
  rfl
end
theorem eq_ptr (d : Nat) (w : World) : (Op.equalIn (d + 1) 31 (.pointer none) (.pointer none)).run Yba.prog w = .ok true w := by kernel_rfl
theorem eq37 (d : Nat) (p q : Int) (w : World) : (Op.equalIn (d + 6) 37 (apV p) (apV q)).run Yba.prog w = .ok (decide (p = q)) w := by
  have hp := eq_ptr
  simp [go_sem, apV, apC, hp]
  by_cases h : p = q <;> simp [h]
set_option maxRecDepth 100000 in
theorem bin_eql {x y : Operand} {t : TypeId} {xs ys : Array Value} {r : Bool} (hg : Yba.prog.eqGuardType Yba.prog.depth t = false) (h : ∀ w, (Op.equalIn 10000 t (.agg xs) (.agg ys)).run Yba.prog w = .ok r w) : Bin .eql t x y (.agg xs) (.agg ys) (.bool r) := fun w => by
  have h1 : (eqGuard .eql t x y (.agg xs) (.agg ys)).run Yba.prog w = .ok () w := by simp [go_sem, eqGuard, hg]
  have h2 : (binOp .eql t (.agg xs) (.agg ys)).run Yba.prog w = .ok (.bool r) w := by
    have e : binOp .eql t (.agg xs) (.agg ys) = (Op.equalIn 10000 t (.agg xs) (.agg ys) >>= fun b => pure (.bool b)) := rfl
    rw [e, Sem.run_bind, h w]
    rfl
  rw [Sem.run_bind, h1]
  exact h2
set_option maxRecDepth 100000 in
theorem bin_neq {x y : Operand} {t : TypeId} {xs ys : Array Value} {r : Bool} (hg : Yba.prog.eqGuardType Yba.prog.depth t = false) (h : ∀ w, (Op.equalIn 10000 t (.agg xs) (.agg ys)).run Yba.prog w = .ok r w) : Bin .neq t x y (.agg xs) (.agg ys) (.bool !r) := fun w => by
  have h1 : (eqGuard .neq t x y (.agg xs) (.agg ys)).run Yba.prog w = .ok () w := by simp [go_sem, eqGuard, hg]
  have h2 : (binOp .neq t (.agg xs) (.agg ys)).run Yba.prog w = .ok (.bool !r) w := by
    have e : binOp .neq t (.agg xs) (.agg ys) = (Op.equalIn 10000 t (.agg xs) (.agg ys) >>= fun b => pure (.bool !b)) := rfl
    rw [e, Sem.run_bind, h w]
    rfl
  rw [Sem.run_bind, h1]
  exact h2
theorem eql37 (x y : Operand) (p q : Int) : Bin .eql 37 x y (apV p) (apV q) (.bool (decide (p = q))) := bin_eql (by kernel_rfl) (eq37 9994 p q)
theorem neq37 (x y : Operand) (p q : Int) : Bin .neq 37 x y (apV p) (apV q) (.bool (decide (p ≠ q))) := by
  have := bin_neq (x := x) (y := y) (by kernel_rfl) (eq37 9994 p q)
  rw [decide_not]
  exact this
theorem eq40 (d : Nat) {a b : Nat} (ha : a ≤ 255) (hb : b ≤ 255) (w : World) : (Op.equalIn (d + 3) 40 (keyV a) (keyV b)).run Yba.prog w = .ok (decide (a = b)) w := by
  have c2 : ∀ b : Nat, Value.formed Yba.prog 40 (keyV b) = true := fun b => by
    have : Yba.prog.cellsOf 40 = 32 := by kernel_rfl
    simp [Value.formed, keyV, Yba.underlying40, this, keyC_len]
  obtain ⟨r, h1, h2⟩ := run_equalIn_deep (P := Yba.prog) d 3 40 (by kernel_rfl) w _ _ _ _ _ _ (c2 a) (c2 b) (lits40 0 ha) (lits40 0 hb)
  rw [h1]
  have : r = decide (a = b) := by
    by_cases h : a = b
    · rw [decide_eq_true h]; exact h2.2 (by rw [h])
    · rw [decide_eq_false h]
      cases r with
      | false => rfl
      | true => exact absurd (litN_inj (h2.1 rfl)) h
  rw [this]
theorem eq65 (d : Nat) {a b a' b' : Nat} (ha : a ≤ 255) (hb : b ≤ 255) (ha' : a' ≤ 255) (hb' : b' ≤ 255) (w : World) : (Op.equalIn (d + 4) 65 (pairV a b) (pairV a' b')).run Yba.prog w = .ok (decide ((a, b) = (a', b'))) w := by
  have c2 : ∀ a b : Nat, Value.formed Yba.prog 65 (pairV a b) = true := fun a b => by
    have : Yba.prog.cellsOf 65 = 64 := by kernel_rfl
    simp [Value.formed, pairV, Yba.underlying65, this, pairC_len]
  obtain ⟨r, h1, h2⟩ := run_equalIn_deep (P := Yba.prog) d 4 65 (by kernel_rfl) w _ _ _ _ _ _ (c2 a b) (c2 a' b') (lits65 0 ha hb) (lits65 0 ha' hb')
  rw [h1]
  have : r = decide ((a, b) = (a', b')) := by
    by_cases h : (a, b) = (a', b')
    · rw [decide_eq_true h]
      simp only [Prod.mk.injEq] at h
      exact h2.2 (by rw [h.1, h.2])
    · rw [decide_eq_false h]
      cases r with
      | false => rfl
      | true =>
        have e := h2.1 rfl
        obtain ⟨e1, e2⟩ := List.append_inj e (by simp [litN, keyN])
        exact absurd (Prod.ext (litN_inj e1) (litN_inj e2)) h
  rw [this]
theorem eql65 (x y : Operand) {a b a' b' : Nat} (ha : a ≤ 255) (hb : b ≤ 255) (ha' : a' ≤ 255) (hb' : b' ≤ 255) : Bin .eql 65 x y (pairV a b) (pairV a' b') (.bool (decide ((a, b) = (a', b')))) := bin_eql (by kernel_rfl) (eq65 9996 ha hb ha' hb')
/-- A route. -/
def routeC (k : Nat) (p : Int) : List Value := keyC k ++ apC p
def routeV (k : Nat) (p : Int) : Value := .agg (routeC k p).toArray
theorem routeC_len (k : Nat) (p : Int) : (routeC k p).length = 36 := by simp [routeC, keyC_len, apC]
theorem routeC_one (k : Nat) (p : Int) : (routeC k p).all (·.oneCell') = true := by kernel_rfl
theorem pairC_one (a b : Nat) : (pairC a b).all (·.oneCell') = true := by kernel_rfl
theorem eq55 {a b : Nat} {p q : Int} (ha : a ≤ 255) (hb : b ≤ 255) (w : World) : (Op.equalIn 10000 55 (routeV a p) (routeV b q)).run Yba.prog w = .ok (decide (a = b) && decide (p = q)) w := by
  have h40 := eq40 9996 ha hb
  have h37 := eq37 9993 p q
  have p40 : ∀ k p (w : World), (part 40 (routeC k p).toArray 0).run Yba.prog w = .ok (keyV k) w := fun k p w => by kernel_rfl
  have p37 : ∀ k p (w : World), (part 37 (routeC k p).toArray 32).run Yba.prog w = .ok (apV p) w := fun k p w => by kernel_rfl
  unfold routeV
  rw [Op.equalIn]
  simp [run_underlying Yba.underlying55, p40, p37, h40, h37]
  by_cases h1 : a = b <;> by_cases h2 : p = q <;> simp [h1, h2]
theorem neq55 (x y : Operand) {a b : Nat} {p q : Int} (ha : a ≤ 255) (hb : b ≤ 255) : Bin .neq 55 x y (routeV a p) (routeV b q) (.bool !(decide (a = b) && decide (p = q))) := bin_neq (by kernel_rfl) (fun w => eq55 ha hb w)
end Go.Proofs.Ybulkcrtu
