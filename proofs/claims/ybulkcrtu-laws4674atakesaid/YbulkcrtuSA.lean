import Derived.Test.YbulkcrtuS0
namespace Go.Proofs.Ybulkcrtu
open Go.RowKit

section
variable {l : List (Nat × Value)} {o : Oper} {w : World}
theorem g_run {v : Value} {w' : World} {T : World → Prop} (hr : ∀ (a : Act) (N : Nat), At a N l → (execOp a.eval o).run Yba.prog w = .ok (.value v) w') (hT : T w') : Goes l o w v T := fun a N hA K Q hK => by
  unfold Oper.wp
  rw [hr a N hA]
  exact hK _ hT
theorem g_mv {x : Operand} {v : Value} (ho : o.op = .move x) (hx : ev l x = some v) : Goes l o w v (· = w) := g_run (w' := w) (fun a N hA => by rw [exec_move ho, hA.ev hx]) rfl
theorem g_as {x : Operand} {v : Value} (ho : o.op = .assign x) (hx : ev l x = some v) : Goes l o w v (· = w) := g_run (w' := w) (fun a N hA => by rw [exec_assign ho, hA.ev hx]) rfl
theorem g_pick {c x y : Operand} {t : Bool} {v : Value} (ho : o.op = .pick c x y) (hc : ev l c = some (.bool t)) (hv : ev l (bif t then x else y) = some v) : Goes l o w v (· = w) :=
  g_run (w' := w) (fun a N hA => by
    unfold execOp
    simp only [ho, hA.ev hc, asBool, Sem.run_bind, Sem.run_pure, Result.andThen_ok]
    have := hA.ev hv
    cases t
    · rw [if_neg (by simp)]; exact congrArg (fun u => Result.ok (Next.value u) w) this
    · rw [if_pos rfl]; exact congrArg (fun u => Result.ok (Next.value u) w) this) rfl
/-- What a binary operation gives. -/
def Bin (b : BinOp) (t : TypeId) (x y : Operand) (vx vy v : Value) : Prop := ∀ w, (do eqGuard b t x y vx vy; binOp b t vx vy : Sem Value).run Yba.prog w = .ok v w
theorem g_bin {b : BinOp} {t t' : TypeId} {x y : Operand} {vx vy v : Value} (ho : o.op = .binOp b t x y t') (hx : ev l x = some vx) (hy : ev l y = some vy) (hb : Bin b t x y vx vy v) : Goes l o w v (· = w) :=
  g_run (w' := w) (fun a N hA => by
    unfold execOp
    simp only [ho, hA.ev hx, hA.ev hy]
    have := hb w
    rw [Sem.run_bind, this]
    rfl) rfl
theorem g_not {t : TypeId} {x : Operand} {b : Bool} (ho : o.op = .unOp .not t x) (hx : ev l x = some (.bool b)) : Goes l o w (.bool !b) (· = w) :=
  g_run (w' := w) (fun a N hA => by
    unfold execOp
    simp only [ho, hA.ev hx]
    simp [go_sem]) rfl
def Cnv (s d : TypeId) (x v : Value) : Prop := ∀ w, (convert s d x).run Yba.prog w = .ok v w
theorem g_cv {s d : TypeId} {x : Operand} {vx v : Value} (ho : o.op = .convert s d x) (hx : ev l x = some vx) (hc : Cnv s d vx v) : Goes l o w v (· = w) :=
  g_run (w' := w) (fun a N hA => by
    unfold execOp
    simp only [ho, hA.ev hx]
    rw [Sem.run_bind, hc w]
    rfl) rfl
theorem g_load {t : TypeId} {x : Operand} {p v : Value} (ho : o.op = .load t x) (hx : ev l x = some p) (hl : (Instr.loadAt t p).run Yba.prog w = .ok v w) : Goes l o w v (· = w) :=
  g_run (w' := w) (fun _ _ hA => exec_load1 hl ho (hA.ev hx)) rfl
theorem g_fld {s k : Nat} {x : Operand} {p v : Value} (ho : o.op = .fieldAddr s x k) (hx : ev l x = some p) (hl : (Instr.fieldAt s p k).run Yba.prog w = .ok v w) : Goes l o w v (· = w) :=
  g_run (w' := w) (fun _ _ hA => exec_field hl ho (hA.ev hx)) rfl
theorem g_idx {t : TypeId} {x i : Operand} {p j v : Value} (ho : o.op = .indexAddr t x i) (hx : ev l x = some p) (hi : ev l i = some j) (hl : (Instr.indexAt t p j).run Yba.prog w = .ok v w) : Goes l o w v (· = w) :=
  g_run (w' := w) (fun a N hA => by
    unfold execOp
    simp only [ho, hA.ev hx, hA.ev hi]
    rw [Sem.run_bind, hl]
    rfl) rfl
theorem g_nil {x : Operand} {a : Addr} (ho : o.op = .nilCheck x) (hx : ev l x = some (.pointer (some a))) : Goes l o w (.pointer (some a)) (· = w) :=
  g_run (w' := w) (fun _ _ hA => exec_nil ho (hA.ev hx)) rfl
theorem g_ext {x : Operand} {vs : Array Value} {i : Nat} {v : Value} (ho : o.op = .extract x i) (hx : ev l x = some (.tuple vs)) (hi : vs[i]? = some v) : Goes l o w v (· = w) :=
  g_run (w' := w) (fun a N hA => by
    unfold execOp
    simp only [ho, hA.ev hx]
    simp [go_sem, Instr.extract, hi]) rfl
theorem g_store {t : TypeId} {x y : Operand} {p v : Value} {T : World → Prop} (ho : o.op = .store t x y) (hx : ev l x = some p) (hy : ev l y = some v) (hs : ∃ w', (Instr.storeAt t p v).run Yba.prog w = .ok () w' ∧ T w') : Goes l o w undef T := fun a N hA K Q hK => by
  obtain ⟨w', hr, hT⟩ := hs
  unfold Oper.wp execOp
  simp only [ho, hA.ev hx, hA.ev hy]
  rw [Sem.run_bind, hr]
  exact hK _ hT
theorem g_mapup {t : TypeId} {m x y : Operand} {pm pk v : Value} {T : World → Prop} (ho : o.op = .mapUpdate t m x y) (hm : ev l m = some pm) (hx : ev l x = some pk) (hy : ev l y = some v) (hs : ∃ w', (Instr.mapUpdate t pm pk v).run Yba.prog w = .ok () w' ∧ T w') : Goes l o w undef T := fun a N hA K Q hK => by
  obtain ⟨w', hr, hT⟩ := hs
  unfold Oper.wp execOp
  simp only [ho, hA.ev hm, hA.ev hx, hA.ev hy]
  rw [Sem.run_bind, hr]
  exact hK _ hT
theorem g_look {t : TypeId} {m x : Operand} {pm pk v : Value} {b : Bool} (ho : o.op = .lookup t m x b) (hm : ev l m = some pm) (hx : ev l x = some pk) (hs : (Instr.lookup t pm pk b).run Yba.prog w = .ok v w) : Goes l o w v (· = w) :=
  g_run (w' := w) (fun a N hA => by
    unfold execOp
    simp only [ho, hA.ev hm, hA.ev hx]
    rw [Sem.run_bind, hs]
    rfl) rfl
theorem g_alloc {t : TypeId} {v : Value} {T : World → Prop} (ho : o.op = .alloc t) (hs : ∃ w', (Instr.alloc t true (.tuple #[])).run Yba.prog w = .ok v w' ∧ T w') : Goes l o w v T := by
  obtain ⟨w', hr, hT⟩ := hs
  refine g_run (w' := w') (fun a N hA => ?_) hT
  unfold execOp
  simp only [ho]
  rw [Sem.run_bind, hr]
  rfl
theorem g_box {t : TypeId} {x : Operand} {u v : Value} {T : World → Prop} (ho : o.op = .box t x) (hx : ev l x = some u) (hs : ∃ w', (Instr.box t u).run Yba.prog w = .ok v w' ∧ T w') : Goes l o w v T := by
  obtain ⟨w', hr, hT⟩ := hs
  refine g_run (w' := w') (fun a N hA => ?_) hT
  unfold execOp
  simp only [ho, hA.ev hx]
  rw [Sem.run_bind, hr]
  rfl
def evp (l : List (Nat × Value)) : List (Nat × Operand) → Option (List (Nat × Value))
  | [] => some []
  | (i, x) :: r => match ev l x, evp l r with
    | some v, some vs => some ((i, v) :: vs)
    | _, _ => none
theorem At.evp {A : Act} {N : Nat} (h : At A N l) : ∀ {xs : List (Nat × Operand)} {vs : List (Nat × Value)}, evp l xs = some vs → xs.map (fun p => (p.1, A.eval p.2)) = vs
  | [], vs, hx => by simp [Ybulkcrtu.evp] at hx; subst hx; rfl
  | (i, x) :: r, vs, hx => by
    unfold Ybulkcrtu.evp at hx
    split at hx
    · rename_i v us h1 h2
      simp at hx
      subst hx
      simp only [List.map_cons, h.ev h1, h.evp h2]
    · simp at hx
theorem g_build {t : TypeId} {ps : List (Nat × Operand)} {vs : List (Nat × Value)} {v : Value} (ho : o.op = .build t ps.toArray) (hp : evp l ps = some vs) (hs : (Instr.build t vs.toArray).run Yba.prog w = .ok v w) : Goes l o w v (· = w) :=
  g_run (w' := w) (fun a N hA => exec_build ho (by simpa using congrArg List.toArray (hA.evp hp)) hs) rfl
theorem g_bslice {t : TypeId} {n : Nat} {ps : List (Nat × Operand)} {vs : List (Nat × Value)} {v : Value} {T : World → Prop} (ho : o.op = .buildSlice t n ps.toArray) (hp : evp l ps = some vs) (hs : ∃ w', (Instr.buildSlice t n vs.toArray).run Yba.prog w = .ok v w' ∧ T w') : Goes l o w v T := by
  obtain ⟨w', hr, hT⟩ := hs
  exact g_run (w' := w') (fun a N hA => exec_slice ho (by simpa using congrArg List.toArray (hA.evp hp)) hr) hT
def Callable (f : FuncId) : Prop := ∃ fn, Yba.prog.funcs[f]? = some fn ∧ (fn.name == "runtime.NumGoroutine") = false ∧ fn.body.isNone = false
theorem run_callFunc {f : FuncId} (h : Callable f) (args : Array Value) (w : World) : (callFunc f args).run Yba.prog w = .ok (.enter f args) w := by
  obtain ⟨fn, hf, hn, hb⟩ := h
  have hn' : fn.name ≠ "runtime.NumGoroutine" := by simpa using hn
  have hb' : fn.body ≠ none := by cases hh : fn.body <;> simp_all
  simp [callFunc, hf, hn', hb']
/-- A call of a Go function, or of a closure. -/
theorem g_call {f : FuncId} {c : Operand} {cap : List Value} {xs : List Operand} {ts : Array TypeId} {vs : List Value} {v : Value} {T : World → Prop} (ho : o.op = .call { callee := .value c, args := xs.toArray, argTypes := ts }) (hcl : ev l c = some (.func (.func f) #[] cap.toArray)) (hx : evs l xs = some vs)
    (hf : Callable f) (hc : Calls Yba.prog f (vs ++ cap).toArray w fun e w' => e = .returned v ∧ T w') : Goes l o w v T := fun a N hA K Q hK => by
  have e : (xs.toArray.map a.eval) = vs.toArray := by simpa using congrArg List.toArray (hA.evs hx)
  have hrun : (execOp a.eval o).run Yba.prog w = .ok (.enter f (vs ++ cap).toArray) w := by
    unfold execOp
    simp only [ho, resolve, hA.ev hcl, Deferred.ofValue, e, Sem.run_bind, Sem.run_pure, Result.andThen_ok, invoke]
    have := run_callFunc hf (vs ++ cap).toArray w
    simpa using this
  unfold Oper.wp
  rw [hrun]
  refine hc.mono ?_
  rintro e' w' ⟨rfl, hT⟩
  exact hK _ hT
def Blt (b : Builtin) (ts : Array TypeId) (ty : TypeId) (cs : Array Bool) (vs : Array Value) (w : World) (v : Value) (w' : World) : Prop := (builtin b ts ty cs vs).run Yba.prog w = .ok (.value v) w'
theorem g_blt {b : Builtin} {xs : List Operand} {ts : Array TypeId} {vs : List Value} {v : Value} {T : World → Prop} (ho : o.op = .call { callee := .builtin b, args := xs.toArray, argTypes := ts }) (hx : evs l xs = some vs)
    (hs : ∃ w', Blt b ts o.type (xs.toArray.map fun | .const _ => true | _ => false) vs.toArray w v w' ∧ T w') : Goes l o w v T := by
  obtain ⟨w', hr, hT⟩ := hs
  refine g_run (w' := w') (fun a N hA => ?_) hT
  have e : (xs.toArray.map a.eval) = vs.toArray := by simpa using congrArg List.toArray (hA.evs hx)
  unfold execOp
  simp only [ho, resolve, e, Sem.run_bind, Sem.run_pure, Result.andThen_ok, invoke]
  exact hr
theorem g_len {xs : List Operand} {t : TypeId} {a : Option Addr} {n c : Nat} (ho : o.op = .call { callee := .builtin .len, args := xs.toArray, argTypes := #[t] }) {e : TypeId} (hx : evs l xs = some [.slice a n c]) (hu : Yba.prog.underlying t = some (.slice e)) : Goes l o w (.int .i64 n) (· = w) := by
  refine g_blt ho hx ⟨w, ?_, rfl⟩
  unfold Blt
  simp [go_sem, hu]
end

/-! ### The same, of an operation written out -/
section
variable {l : List (Nat × Value)} {w : World} {dz : Option Tmp} {ty : TypeId} {pz : String} {af : Array Edge} {gz : Option (Nat × Bool)}
theorem x_mv {x : Operand} {v : Value} (hx : ev l x = some v) : Goes l ⟨dz, .move x, ty, pz, af, gz⟩ w v (· = w) := @g_mv l ⟨dz, .move x, ty, pz, af, gz⟩ w x v rfl hx
theorem x_as {x : Operand} {v : Value} (hx : ev l x = some v) : Goes l ⟨dz, .assign x, ty, pz, af, gz⟩ w v (· = w) := @g_as l ⟨dz, .assign x, ty, pz, af, gz⟩ w x v rfl hx
theorem x_pick {c x y : Operand} {t : Bool} {v : Value} (hc : ev l c = some (.bool t)) (hv : ev l (bif t then x else y) = some v) : Goes l ⟨dz, .pick c x y, ty, pz, af, gz⟩ w v (· = w) := @g_pick l ⟨dz, .pick c x y, ty, pz, af, gz⟩ w c x y t v rfl hc hv
theorem x_bin {b : BinOp} {t t' : TypeId} {x y : Operand} {vx vy v : Value} (hx : ev l x = some vx) (hy : ev l y = some vy) (hb : Bin b t x y vx vy v) : Goes l ⟨dz, .binOp b t x y t', ty, pz, af, gz⟩ w v (· = w) := @g_bin l ⟨dz, .binOp b t x y t', ty, pz, af, gz⟩ w b t t' x y vx vy v rfl hx hy hb
theorem x_not {t : TypeId} {x : Operand} {b : Bool} (hx : ev l x = some (.bool b)) : Goes l ⟨dz, .unOp .not t x, ty, pz, af, gz⟩ w (.bool !b) (· = w) := @g_not l ⟨dz, .unOp .not t x, ty, pz, af, gz⟩ w t x b rfl hx
theorem x_cv {s d : TypeId} {x : Operand} {vx v : Value} (hx : ev l x = some vx) (hc : Cnv s d vx v) : Goes l ⟨dz, .convert s d x, ty, pz, af, gz⟩ w v (· = w) := @g_cv l ⟨dz, .convert s d x, ty, pz, af, gz⟩ w s d x vx v rfl hx hc
theorem x_load {t : TypeId} {x : Operand} {p v : Value} (hx : ev l x = some p) (hl : (Instr.loadAt t p).run Yba.prog w = .ok v w) : Goes l ⟨dz, .load t x, ty, pz, af, gz⟩ w v (· = w) := @g_load l ⟨dz, .load t x, ty, pz, af, gz⟩ w t x p v rfl hx hl
theorem x_fld {s k : Nat} {x : Operand} {p v : Value} (hx : ev l x = some p) (hl : (Instr.fieldAt s p k).run Yba.prog w = .ok v w) : Goes l ⟨dz, .fieldAddr s x k, ty, pz, af, gz⟩ w v (· = w) := @g_fld l ⟨dz, .fieldAddr s x k, ty, pz, af, gz⟩ w s k x p v rfl hx hl
theorem x_idx {t : TypeId} {x i : Operand} {p j v : Value} (hx : ev l x = some p) (hi : ev l i = some j) (hl : (Instr.indexAt t p j).run Yba.prog w = .ok v w) : Goes l ⟨dz, .indexAddr t x i, ty, pz, af, gz⟩ w v (· = w) := @g_idx l ⟨dz, .indexAddr t x i, ty, pz, af, gz⟩ w t x i p j v rfl hx hi hl
theorem x_nil {x : Operand} {a : Addr} (hx : ev l x = some (.pointer (some a))) : Goes l ⟨dz, .nilCheck x, ty, pz, af, gz⟩ w (.pointer (some a)) (· = w) := @g_nil l ⟨dz, .nilCheck x, ty, pz, af, gz⟩ w x a rfl hx
theorem x_ext {x : Operand} {vs : Array Value} {i : Nat} {v : Value} (hx : ev l x = some (.tuple vs)) (hi : vs[i]? = some v) : Goes l ⟨dz, .extract x i, ty, pz, af, gz⟩ w v (· = w) := @g_ext l ⟨dz, .extract x i, ty, pz, af, gz⟩ w x vs i v rfl hx hi
theorem x_store {t : TypeId} {x y : Operand} {p v : Value} {T : World → Prop} (hx : ev l x = some p) (hy : ev l y = some v) (hs : ∃ w', (Instr.storeAt t p v).run Yba.prog w = .ok () w' ∧ T w') : Goes l ⟨dz, .store t x y, ty, pz, af, gz⟩ w undef T := @g_store l ⟨dz, .store t x y, ty, pz, af, gz⟩ w t x y p v T rfl hx hy hs
theorem x_mapup {t : TypeId} {m x y : Operand} {pm pk v : Value} {T : World → Prop} (hm : ev l m = some pm) (hx : ev l x = some pk) (hy : ev l y = some v) (hs : ∃ w', (Instr.mapUpdate t pm pk v).run Yba.prog w = .ok () w' ∧ T w') : Goes l ⟨dz, .mapUpdate t m x y, ty, pz, af, gz⟩ w undef T := @g_mapup l ⟨dz, .mapUpdate t m x y, ty, pz, af, gz⟩ w t m x y pm pk v T rfl hm hx hy hs
theorem x_look {t : TypeId} {m x : Operand} {pm pk v : Value} {b : Bool} (hm : ev l m = some pm) (hx : ev l x = some pk) (hs : (Instr.lookup t pm pk b).run Yba.prog w = .ok v w) : Goes l ⟨dz, .lookup t m x b, ty, pz, af, gz⟩ w v (· = w) := @g_look l ⟨dz, .lookup t m x b, ty, pz, af, gz⟩ w t m x pm pk v b rfl hm hx hs
theorem x_alloc {t : TypeId} {v : Value} {T : World → Prop} (hs : ∃ w', (Instr.alloc t true (.tuple #[])).run Yba.prog w = .ok v w' ∧ T w') : Goes l ⟨dz, .alloc t, ty, pz, af, gz⟩ w v T := @g_alloc l ⟨dz, .alloc t, ty, pz, af, gz⟩ w t v T rfl hs
theorem x_box {t : TypeId} {x : Operand} {u v : Value} {T : World → Prop} (hx : ev l x = some u) (hs : ∃ w', (Instr.box t u).run Yba.prog w = .ok v w' ∧ T w') : Goes l ⟨dz, .box t x, ty, pz, af, gz⟩ w v T := @g_box l ⟨dz, .box t x, ty, pz, af, gz⟩ w t x u v T rfl hx hs
theorem x_build {t : TypeId} {ps : List (Nat × Operand)} {vs : List (Nat × Value)} {v : Value} (hp : evp l ps = some vs) (hs : (Instr.build t vs.toArray).run Yba.prog w = .ok v w) : Goes l ⟨dz, .build t ps.toArray, ty, pz, af, gz⟩ w v (· = w) := @g_build l ⟨dz, .build t ps.toArray, ty, pz, af, gz⟩ w t ps vs v rfl hp hs
theorem x_bslice {t : TypeId} {n : Nat} {ps : List (Nat × Operand)} {vs : List (Nat × Value)} {v : Value} {T : World → Prop} (hp : evp l ps = some vs) (hs : ∃ w', (Instr.buildSlice t n vs.toArray).run Yba.prog w = .ok v w' ∧ T w') : Goes l ⟨dz, .buildSlice t n ps.toArray, ty, pz, af, gz⟩ w v T := @g_bslice l ⟨dz, .buildSlice t n ps.toArray, ty, pz, af, gz⟩ w t n ps vs v T rfl hp hs
theorem x_call {f : FuncId} {c : Operand} {cap : List Value} {xs : List Operand} {ts : Array TypeId} {vs : List Value} {v : Value} {T : World → Prop} (hcl : ev l c = some (.func (.func f) #[] cap.toArray)) (hx : evs l xs = some vs) (hf : Callable f) (hc : Calls Yba.prog f (vs ++ cap).toArray w fun e w' => e = .returned v ∧ T w') : Goes l ⟨dz, .call { callee := .value c, args := xs.toArray, argTypes := ts }, ty, pz, af, gz⟩ w v T := @g_call l ⟨dz, .call { callee := .value c, args := xs.toArray, argTypes := ts }, ty, pz, af, gz⟩ w f c cap xs ts vs v T rfl hcl hx hf hc
theorem x_blt {b : Builtin} {xs : List Operand} {ts : Array TypeId} {vs : List Value} {v : Value} {T : World → Prop} (hx : evs l xs = some vs) (hs : ∃ w', Blt b ts ty (xs.toArray.map fun | .const _ => true | _ => false) vs.toArray w v w' ∧ T w') : Goes l ⟨dz, .call { callee := .builtin b, args := xs.toArray, argTypes := ts }, ty, pz, af, gz⟩ w v T := @g_blt l ⟨dz, .call { callee := .builtin b, args := xs.toArray, argTypes := ts }, ty, pz, af, gz⟩ w b xs ts vs v T rfl hx hs
theorem x_len {xs : List Operand} {t : TypeId} {a : Option Addr} {n c : Nat} {e : TypeId} (hx : evs l xs = some [.slice a n c]) (hu : Yba.prog.underlying t = some (.slice e)) : Goes l ⟨dz, .call { callee := .builtin .len, args := xs.toArray, argTypes := #[t] }, ty, pz, af, gz⟩ w (.int .i64 n) (· = w) := @g_len l ⟨dz, .call { callee := .builtin .len, args := xs.toArray, argTypes := #[t] }, ty, pz, af, gz⟩ w xs t a n c rfl e hx hu
end

/-! ### Numbers -/
section
variable (x y : Operand) (m n : Int)
theorem lss3 : Bin .lss 3 x y (.int .i64 m) (.int .i64 n) (.bool (decide (m < n))) := fun w => by simp [go_sem, eqGuard]
theorem leq3 : Bin .leq 3 x y (.int .i64 m) (.int .i64 n) (.bool (decide (m ≤ n))) := fun w => by simp [go_sem, eqGuard]
theorem gtr3 : Bin .gtr 3 x y (.int .i64 m) (.int .i64 n) (.bool (decide (m > n))) := fun w => by simp [go_sem, eqGuard]
theorem geq3 : Bin .geq 3 x y (.int .i64 m) (.int .i64 n) (.bool (decide (m ≥ n))) := fun w => by simp [go_sem, eqGuard]
theorem eql3 : Bin .eql 3 x y (.int .i64 m) (.int .i64 n) (.bool (decide (m = n))) := fun w => by simp [go_sem, eqGuard]; rfl
theorem eql42 : Bin .eql 42 x y (.int .i64 m) (.int .i64 n) (.bool (decide (m = n))) := fun w => by simp [go_sem, eqGuard]; rfl
theorem neq3 : Bin .neq 3 x y (.int .i64 m) (.int .i64 n) (.bool (decide (m ≠ n))) := fun w => by simp [go_sem, eqGuard]; rfl
theorem add3 (h0 : -9223372036854775808 ≤ m + n) (h1 : m + n ≤ 9223372036854775807) : Bin .add 3 x y (.int .i64 m) (.int .i64 n) (.int .i64 (m + n)) := fun w => by
  simp [go_sem, eqGuard]
  rw [IntKind.wrap_i64]
  omega
theorem sub3 (h0 : -9223372036854775808 ≤ m - n) (h1 : m - n ≤ 9223372036854775807) : Bin .sub 3 x y (.int .i64 m) (.int .i64 n) (.int .i64 (m - n)) := fun w => by
  simp [go_sem, eqGuard]
  rw [IntKind.wrap_i64]
  omega
theorem rem3 (h0 : 0 ≤ m) (h1 : 0 < n) : Bin .rem 3 x y (.int .i64 m) (.int .i64 n) (.int .i64 (m % n)) := fun w => by
  simp [go_sem, eqGuard]
  rw [if_neg (by omega), Int.tmod_eq_emod_of_nonneg h0]
end

/-! ### Memory, by blocks -/
/-- Block b: n cells, g. -/
def Row (w : World) (b : Nat) (t : TypeId) (n : Nat) (g : Nat → Value) : Prop := ∃ cs : Array Value, w.heap[b]? = some (.cells cs t (0, 0)) ∧ cs.size = n ∧ ∀ i, i < n → cs[i]? = some (g i)
/-- w' is w but for block b. -/
structure Up (w w' : World) (b : Nat) : Prop where
  os : w'.os = w.os
  tape : w'.tape = w.tape
  output : w'.output = w.output
  size : w'.heap.size = w.heap.size
  block : ∀ k, k ≠ b → w'.heap[k]? = w.heap[k]?
theorem Up.below {w w' : World} {b B : Nat} (h : Up w w' b) (hB : B ≤ b) : Below B w w' := ⟨h.os, h.tape, h.output, by rw [h.size]; exact Nat.le_refl _, fun k hk => h.block k (by omega)⟩
theorem Up.setCell (w : World) (b o : Nat) (v : Value) : Up w (w.setCell ⟨b, o, none⟩ v) b := ⟨rfl, rfl, rfl, by simp, fun k hk => Below.heap_setCell _ _ _ _ hk⟩
theorem Up.trans {w w' w'' : World} {b : Nat} (h : Up w w' b) (k : Up w' w'' b) : Up w w'' b := ⟨k.os.trans h.os, k.tape.trans h.tape, k.output.trans h.output, k.size.trans h.size, fun i hi => (k.block i hi).trans (h.block i hi)⟩
theorem Up.refl (w : World) (b : Nat) : Up w w b := ⟨rfl, rfl, rfl, rfl, fun _ _ => rfl⟩
section
variable {w w' : World} {b t n : Nat} {g : Nat → Value}
theorem Row.lt (h : Row w b t n g) : b < w.heap.size := by obtain ⟨cs, h, _⟩ := h; exact (Array.getElem?_eq_some_iff.1 h).1
theorem Row.keep (h : Row w b t n g) (hb : w'.heap[b]? = w.heap[b]?) : Row w' b t n g := by obtain ⟨cs, h, r⟩ := h; exact ⟨cs, hb.trans h, r⟩
theorem Row.below (h : Row w b t n g) {B : Nat} (hb : Below B w w') (hB : b < B) : Row w' b t n g := h.keep (hb.block b hB)
theorem Row.up (h : Row w b t n g) {c : Nat} (hu : Up w w' c) (hc : b ≠ c) : Row w' b t n g := h.keep (hu.block b hc)
theorem Row.cell (h : Row w b t n g) {i : Nat} (hi : i < n) : w.cell? ⟨b, i, none⟩ = some (g i) := by
  obtain ⟨cs, h, hs, hc⟩ := h
  have := hc i hi
  simp only [World.cell?, h]
  simpa using this
theorem Row.frozen (h : Row w b t n g) (i : Nat) : w.frozen? ⟨b, i, none⟩ = false := by
  obtain ⟨cs, h, hs, hc⟩ := h
  simp [World.frozen?, h]
theorem Row.ext (h : Row w b t n g) {g' : Nat → Value} (hg : ∀ i, i < n → g i = g' i) : Row w b t n g' := by
  obtain ⟨cs, h, hs, hc⟩ := h
  exact ⟨cs, h, hs, fun i hi => (hc i hi).trans (by rw [hg i hi])⟩
theorem Row.set (h : Row w b t n g) (o : Nat) (v : Value) : Row (w.setCell ⟨b, o, none⟩ v) b t n (fun i => if i = o then v else g i) := by
  obtain ⟨cs, h, hs, hc⟩ := h
  refine ⟨cs.setIfInBounds o v, heap_setCell_same _ _ _ _ _ _ h, by simpa using hs, fun i hi => ?_⟩
  rw [Array.getElem?_setIfInBounds]
  by_cases e : o = i
  · subst e
    simp [hs, hi]
  · rw [if_neg e, hc i hi]
    have e' : ¬ i = o := fun h => e h.symm
    simp only [if_neg e']
theorem Row.sets : ∀ (vs : List Value) (o : Nat) {w : World} {g : Nat → Value}, Row w b t n g → Up w (w.setCells b o vs) b ∧ Row (w.setCells b o vs) b t n (fun i => if o ≤ i ∧ i < o + vs.length then vs.getD (i - o) undef else g i)
  | [], o, w, g, h => ⟨Up.refl _ _, h.ext (fun i hi => by rw [if_neg (by simp)])⟩
  | v :: r, o, w, g, h => by
    obtain ⟨h1, h2⟩ := Row.sets r (o + 1) (h.set o v)
    refine ⟨(Up.setCell w b o v).trans h1, h2.ext (fun i hi => ?_)⟩
    simp only [List.length_cons]
    by_cases e : i = o
    · subst e
      rw [if_neg (by omega), if_pos rfl, if_pos (by omega)]
      simp
    · by_cases c : o + 1 ≤ i ∧ i < o + 1 + r.length
      · rw [if_pos c, if_pos (by omega), show i - o = i - (o + 1) + 1 by omega]
        simp
      · rw [if_neg c, if_neg e, if_neg (by omega)]
theorem Row.load (h : Row w b t n g) {ty : TypeId} {d : TypeDesc} {o : Nat} (cs : List Value) (hu : Yba.prog.underlying ty = some d) (hd : d.isRow = true) (hi : (Yba.prog.info? ty).map (·.size) = some cs.length) (hc : ∀ j v, cs[j]? = some v → o + j < n ∧ g (o + j) = v) :
    (Instr.loadAt ty (.pointer (some ⟨b, o, none⟩))).run Yba.prog w = .ok (.agg cs.toArray) w :=
  run_loadAt_mid w b o ty cs d (fun j v hv => by rw [h.cell (hc j v hv).1, (hc j v hv).2]) hu hd hi
theorem Row.load1 (h : Row w b t n g) {ty : TypeId} {o : Nat} (hag : ∀ w : World, (isAgg ty).run Yba.prog w = .ok false w) (ho : o < n) : (Instr.loadAt ty (.pointer (some ⟨b, o, none⟩))).run Yba.prog w = .ok (g o) w :=
  load_cell hag w _ _ (h.cell ho)
theorem Row.store (h : Row w b t n g) {ty : TypeId} {o : Nat} (cs : List Value) (hi : (Yba.prog.info? ty).map (·.size) = some cs.length) (h1 : cs.all (·.oneCell') = true) (ho : o + cs.length ≤ n) :
    ∃ w', (Instr.storeAt ty (.pointer (some ⟨b, o, none⟩)) (.agg cs.toArray)).run Yba.prog w = .ok () w' ∧ Up w w' b ∧ Row w' b t n (fun i => if o ≤ i ∧ i < o + cs.length then cs.getD (i - o) undef else g i) := by
  obtain ⟨hu, hr⟩ := Row.sets cs o h
  refine ⟨_, run_storeAt_mid w b o ty cs.toArray (fun j hj => ⟨?_, h.frozen _⟩) (by simpa using hi) (by simpa using h1), ?_⟩
  · have : j < cs.length := by simpa using hj
    rw [h.cell (by omega)]
    rfl
  · exact ⟨hu, hr⟩
theorem Row.store1 (h : Row w b t n g) {ty : TypeId} {o : Nat} (v : Value) (hso : ∀ w : World, (sizeOf ty).run Yba.prog w = .ok 1 w) (hv1 : v.oneCell' = true) (ho : o < n) :
    ∃ w', (Instr.storeAt ty (.pointer (some ⟨b, o, none⟩)) v).run Yba.prog w = .ok () w' ∧ Up w w' b ∧ Row w' b t n (fun i => if i = o then v else g i) := by
  refine ⟨_, ?_, Up.setCell w b o v, h.set o v⟩
  have h1 := h.cell ho
  have h2 := h.frozen (i := o)
  cases v <;> first | (simp [Value.oneCell'] at hv1; done) | (simp [go_sem, hso, h1, h2]; done) | (simp [go_sem, hso]; rw [run_store _ _ _ _ _ hv1]; simp [h1, h2])
theorem Row.alloc (w : World) (cs : List Value) (t : TypeId) : Row (w.alloc (.cells cs.toArray t)) w.heap.size t cs.length (fun i => cs.getD i undef) :=
  ⟨cs.toArray, heap1a _ _, by simp, fun i hi => by simp [List.getElem?_eq_getElem hi]⟩
end
end Go.Proofs.Ybulkcrtu
