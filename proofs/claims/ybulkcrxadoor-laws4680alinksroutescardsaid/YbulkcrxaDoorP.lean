import Derived.Test.YbulkcrxaDoorX
namespace Go.Proofs.YbulkcrxaDoor
open Go.RowKit

/-- The frame with f's values in the slots lo .. lo + n - 1. -/
def FR (A : Act) (lo n : Nat) (f : Nat → Value) : Act := { A with tmps := A.tmps.mapIdx fun s u => if lo ≤ s ∧ s < lo + n then f (s - lo) else u }

theorem FR_get (A : Act) (lo n : Nat) (f : Nat → Value) (s : Nat) : (FR A lo n f).tmps[s]? = (A.tmps[s]?).map fun u => if lo ≤ s ∧ s < lo + n then f (s - lo) else u := by
  unfold FR
  simp only [Array.getElem?_mapIdx]
theorem FR_size (A : Act) (lo n : Nat) (f : Nat → Value) : (FR A lo n f).tmps.size = A.tmps.size := by unfold FR; simp
theorem FR_put (A : Act) (lo n : Nat) (f : Nat → Value) (i : Nat) (v : Value) (hi : i < n) : (FR A lo n f).put (some (lo + i)) v = FR A lo n (upd f i v) := by
  refine Act.ext' ?_ rfl
  show (FR A lo n f).tmps.setIfInBounds (lo + i) v = (FR A lo n (upd f i v)).tmps
  apply Array.ext_getElem?
  intro s
  rw [Array.getElem?_setIfInBounds, FR_get, FR_get, FR_size]
  unfold upd
  cases hs : A.tmps[s]? with
  | none =>
    have hle := Array.getElem?_eq_none_iff.1 hs
    simp only [Option.map_none]
    by_cases ht : lo + i = s
    · rw [if_pos ht, if_neg (by omega)]
    · rw [if_neg ht]
  | some u =>
    have hl := (Array.getElem?_eq_some_iff.1 hs).1
    simp only [Option.map_some]
    by_cases hs' : lo + i = s
    · rw [if_pos hs', if_pos (by omega), if_pos (by omega), if_pos (by omega)]
    · rw [if_neg hs']
      by_cases hr : lo ≤ s ∧ s < lo + n
      · rw [if_pos hr, if_pos hr, if_neg (by omega)]
      · rw [if_neg hr, if_neg hr]
theorem FR_eval (A : Act) (lo n : Nat) (hA : lo + n ≤ A.tmps.size) (f : Nat → Value) (i : Nat) (hi : i < n) : (FR A lo n f).eval (.tmp (lo + i)) = f i := by
  rw [eval_tmp, FR_get, Array.getElem?_eq_getElem (by omega)]
  simp only [Option.map_some, Option.getD_some]
  rw [if_pos (by omega), show lo + i - lo = i by omega]
theorem FR_other (A : Act) (lo n : Nat) (f : Nat → Value) (s : Nat) (h : s < lo) : (FR A lo n f).eval (.tmp s) = A.eval (.tmp s) := by
  rw [eval_tmp, eval_tmp, FR_get]
  cases A.tmps[s]? with
  | none => rfl
  | some u =>
    simp only [Option.map_some, Option.getD_some]
    rw [if_neg (by omega)]
theorem FR_self (A : Act) (lo n : Nat) : FR A lo n (fun i => A.eval (.tmp (lo + i))) = A := by
  refine Act.ext' ?_ rfl
  apply Array.ext_getElem?
  intro s
  rw [FR_get]
  cases hs : A.tmps[s]? with
  | none => rfl
  | some u =>
    simp only [Option.map_some, Option.some.injEq]
    by_cases hr : lo ≤ s ∧ s < lo + n
    · rw [if_pos hr, eval_tmp, show lo + (s - lo) = s by omega, hs]
      rfl
    · rw [if_neg hr]
def putsR (A : Act) (lo : Nat) (f : Nat → Value) : Nat → Act
  | 0 => A
  | n + 1 => (putsR A lo f n).put (some (lo + n)) (f n)
theorem FR_puts (A : Act) (lo : Nat) (f : Nat → Value) : ∀ n, FR A lo n f = putsR A lo f n
  | 0 => by
    refine Act.ext' ?_ rfl
    apply Array.ext_getElem?
    intro s
    rw [FR_get]
    cases hs : A.tmps[s]? with
    | none => rw [show (putsR A lo f 0) = A from rfl, hs]; rfl
    | some u =>
      rw [show (putsR A lo f 0) = A from rfl, hs]
      simp only [Option.map_some, Option.some.injEq]
      rw [if_neg (by omega)]
  | n + 1 => by
    show _ = (putsR A lo f n).put (some (lo + n)) (f n)
    rw [← FR_puts A lo f n]
    refine Act.ext' ?_ rfl
    show (FR A lo (n + 1) f).tmps = (FR A lo n f).tmps.setIfInBounds (lo + n) (f n)
    apply Array.ext_getElem?
    intro s
    rw [Array.getElem?_setIfInBounds, FR_get, FR_get, FR_size]
    cases hs : A.tmps[s]? with
    | none =>
      have hle := Array.getElem?_eq_none_iff.1 hs
      simp only [Option.map_none]
      by_cases ht : lo + n = s
      · rw [if_pos ht, if_neg (by omega)]
      · rw [if_neg ht]
    | some u =>
      have hl := (Array.getElem?_eq_some_iff.1 hs).1
      simp only [Option.map_some]
      by_cases hs' : lo + n = s
      · rw [if_pos hs', if_pos (by omega), if_pos (by omega), show s - lo = n by omega]
      · rw [if_neg hs']
        by_cases hr : lo ≤ s ∧ s < lo + n
        · rw [if_pos hr, if_pos (by omega)]
        · rw [if_neg hr, if_neg (by omega)]

theorem blk_keep {w : World} {b : Nat} {o x : Obj} (h : w.heap[b]? = some x) : (w.alloc o).heap[b]? = some x := (heap_past _ _ _ (Array.getElem?_eq_some_iff.1 h).1).trans h
theorem exec_nil {P : Program} {ρ : Operand → Value} {o : Oper} {x : Operand} {w : World} {a : Addr} (ho : o.op = .nilCheck x) (hx : ρ x = .pointer (some a)) : (execOp ρ o).run P w = .ok (.value (.pointer (some a))) w := by
  unfold execOp
  simp only [ho, hx]
  rfl
theorem exec_field {P : Program} {ρ : Operand → Value} {o : Oper} {x : Operand} {w : World} {s k : Nat} {v v' : Value} (hk : (Instr.fieldAt s v k).run P w = .ok v' w) (ho : o.op = .fieldAddr s x k) (hx : ρ x = v) : (execOp ρ o).run P w = .ok (.value v') w := by
  unfold execOp
  simp only [ho, hx, hk, Sem.run_bind, Sem.run_pure, Result.andThen_ok]
theorem exec_load1 {P : Program} {ρ : Operand → Value} {o : Oper} {x : Operand} {w : World} {ty : TypeId} {a v : Value} (hl : (Instr.loadAt ty a).run P w = .ok v w) (ho : o.op = .load ty x) (hx : ρ x = a) : (execOp ρ o).run P w = .ok (.value v) w := by
  unfold execOp
  simp only [ho, hx, hl, Sem.run_bind, Sem.run_pure, Result.andThen_ok]
theorem exec_build {P : Program} {ρ : Operand → Value} {o : Oper} {w : World} {t : TypeId} {parts : Array (Nat × Operand)} {vs : Array (Nat × Value)} {v : Value} (ho : o.op = .build t parts) (hp : parts.map (fun p => (p.1, ρ p.2)) = vs) (hr : (Instr.build t vs).run P w = .ok v w) : (execOp ρ o).run P w = .ok (.value v) w := by
  unfold execOp
  simp only [ho]
  rw [show (parts.map fun (i, x) => (i, ρ x)) = vs from hp]
  simp only [hr, Sem.run_bind, Sem.run_pure, Result.andThen_ok]
theorem wpOp_store {P : Program} {ops : Array Oper} {Q : Exit → Act → World → Prop} {i : Nat} {o : Oper} {K : Act → World → Prop} {a : Act} {w w' : World} {ty : TypeId} {x y : Operand} {vx vy : Value} (ho : ops[i]? = some o) (hg : o.guard = none) (hd : o.dst = none) (hop : o.op = .store ty x y) (hx : a.eval x = vx) (hy : a.eval y = vy) (hs : (Instr.storeAt ty vx vy).run P w = .ok () w') (h : K a w') : wpOp P ops Q i K a w := by
  refine wpOp_step ho fun K' hK => ?_
  rw [if_pos (by simp [Region.wanted, hg])]
  unfold Oper.wp execOp
  simp only [hop, hx, hy, hs, Sem.run_bind, Sem.run_pure, Result.andThen_ok]
  show K' (a.put o.dst undef) w'
  rw [hd]
  exact hK _ _ h

theorem load_cell {ty : TypeId} (hag : ∀ w : World, (isAgg ty).run Ybad.prog w = .ok false w) (w : World) (a : Addr) (v : Value) (hc : w.cell? a = some v) : (Instr.loadAt ty (.pointer (some a))).run Ybad.prog w = .ok v w := by
  simp [go_sem, hag, hc]
theorem store_slice {ty : TypeId} (hso : ∀ w : World, (sizeOf ty).run Ybad.prog w = .ok 1 w) (w : World) (b o : Nat) (av : Option Addr) (n c : Nat) (u : Value) (hc : w.cell? ⟨b, o, none⟩ = some u) (hf : w.frozen? ⟨b, o, none⟩ = false) : (Instr.storeAt ty (.pointer (some ⟨b, o, none⟩)) (.slice av n c)).run Ybad.prog w = .ok () (w.setCell ⟨b, o, none⟩ (.slice av n c)) := by
  simp [go_sem, hso, hc, hf]
theorem size27 (w : World) : (sizeOf 27).run Ybad.prog w = .ok 1 w := by kernel_rfl
theorem size28 (w : World) : (sizeOf 28).run Ybad.prog w = .ok 1 w := by kernel_rfl
theorem agg9 (w : World) : (isAgg 9).run Ybad.prog w = .ok false w := by kernel_rfl
theorem agg27 (w : World) : (isAgg 27).run Ybad.prog w = .ok false w := by kernel_rfl
theorem agg28 (w : World) : (isAgg 28).run Ybad.prog w = .ok false w := by kernel_rfl
theorem agg5 (w : World) : (isAgg 5).run Ybad.prog w = .ok false w := by kernel_rfl

end Go.Proofs.YbulkcrxaDoor
