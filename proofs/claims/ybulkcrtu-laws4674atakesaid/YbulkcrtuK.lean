import Derived.Test.YbulkcrtuRows
import Derived.WalkKit
import Derived.ProofKit
import Derived.Below
import Derived.WalkLawsBesides
import Derived.Deep.QuietTactic
import Derived.BigQuiet
import Derived.Deep.RegionWith
import Derived.Deep.RegionLaw
import Derived.Deep.CutBlock
import Derived.Deep.AppendLies
import Derived.Deep.MidRow
import Derived.Deep.RegionHeld3
import Derived.Deep.DeepCutAuto
import Derived.Great.BuildSlice
import Derived.Maps.AppendAt
import Derived.OwnWalk
namespace Go.Proofs.Ybulkcrtu
open Go.RowKit

theorem owns_below {w w' : World} {base e size n : Nat} {v : Value} {xs : List Value} (h : w.ownsRow base e size v n xs) (hb : Below w.heap.size w w') : w'.ownsRow base e size v n xs :=
  h.kept (row := none) ⟨hb.os, hb.tape, hb.output, hb.size, fun k hk _ => hb.block k hk⟩ (by cases v.ownBlock <;> simp)
theorem heap_at (w : World) (o : Obj) (k : Nat) (h : k = w.heap.size) : (w.alloc o).heap[k]? = some o := by subst h; exact heap_alloc_new w o
theorem heap_past (w : World) (o : Obj) (k : Nat) (h : k < w.heap.size) : (w.alloc o).heap[k]? = w.heap[k]? := Below.heap_alloc w o k h
theorem heap1a (w : World) (a : Obj) : (w.alloc a).heap[w.heap.size]? = some a := heap_at _ _ _ rfl
theorem heap2a (w : World) (a b : Obj) : ((w.alloc a).alloc b).heap[w.heap.size]? = some a := (heap_past _ _ _ (by simp)).trans (heap1a _ _)
theorem heap2b (w : World) (a b : Obj) : ((w.alloc a).alloc b).heap[w.heap.size + 1]? = some b := heap_at _ _ _ (by simp)
theorem cell_at {W : World} {b j : Nat} {cs : Array Value} {e : TypeId} (hb : W.heap[b]? = some (.cells cs e (0, 0))) : W.cell? ((⟨b, 0, none⟩ : Addr).add j) = cs[j]? := by
  have e1 : (⟨b, 0, none⟩ : Addr).add j = ⟨b, j, none⟩ := by unfold Addr.add; split <;> simp_all
  rw [e1, World.cell?, hb]; rfl
theorem below_alloc (w : World) (o : Obj) : Below w.heap.size w (w.alloc o) := (Below.refl _ _).alloc (Nat.le_refl _) _
theorem step_append_own {P : Program} {ops : Array Oper} {o : Oper} {a : Act} {w : World} {K : Act → World → Prop} {Q : Exit → Act → World → Prop} {E : Prop}
    (hg : o.guard = none) (s x : Operand) (t : TypeId) (hop : o.op = Op.call { callee := Callee.builtin Builtin.append, args := #[s, x], argTypes := #[t, t] })
    (base : Nat) (e : TypeId) (i : TypeInfo) (z : Value) (size bytes : Nat) (h1 : P.underlying t = some (.slice e)) (h2 : P.info? e = some i) (h3 : i.zero = some z) (h4 : i.size = size) (h5 : i.bytes = bytes) (h6 : z.cells.size = size) (h7 : 0 < size)
    (v : Value) (n : Nat) (xs : List Value) (hs : a.eval s = v) (hown : w.ownsRow base e size v n xs)
    (ad : Addr) (m c : Nat) (news : List Value) (hx : a.eval x = .slice (some ad) m c) (hn : news.length = m * size) (hc : ∀ j u, news[j]? = some u → w.cell? (ad.add j) = some u) (h1c : ∀ u ∈ news, u.oneCell' = true)
    (b1 : n + m ≤ maxLen) (b2 : (n + m) * bytes ≤ 140737488355328) (hbase : base ≤ w.heap.size)
    (hK : ∀ v' w', w'.ownsRow base e size v' (n + m) (xs ++ news) → w.grownBy w' v.ownBlock → K (a.put o.dst v') w') :
    if Region.wanted o (yielded ops a.tmps) = true then Oper.wp P o a w K Q else E := by
  have hw : Region.wanted o (yielded ops a.tmps) = true := by simp [Region.wanted, hg]
  rw [if_pos hw]
  exact wp_append_own w s x t hop base e i z size bytes h1 h2 h3 h4 h5 h6 h7 v n xs hs hown ad m c news hx hn hc h1c b1 b2 hbase (fun v' w' a b _ => hK v' w' a b)
theorem cell_keep {w : World} {a : Addr} {o : Obj} {v : Value} (h : w.cell? a = some v) : (w.alloc o).cell? a = some v := (World.cell?_alloc_lt _ _ _ (World.block_lt_of_cell? w a h)).trans h
/-- In this region number i waits for number j. -/
def waits? (md : Region.Mode) (ops : Array Oper) (i j : Nat) : Bool :=
  match ops[i]? with
  | some o => o.after.toList.any fun e => Region.binds md e && (e.on == j)
  | none => false
def lowEdges (md : Region.Mode) (ops : Array Oper) : Bool := (List.range ops.size).all fun i =>
  match ops[i]? with
  | some o => o.after.toList.all fun e => !Region.binds md e || decide (e.on < i)
  | none => true
def Closed (md : Region.Mode) (ops : Array Oper) (listed : Array Bool) : Prop := ∀ i j, listed.getD i false = true → waits? md ops i j = true → listed.getD j false = true
theorem waits_of {md : Region.Mode} {ops : Array Oper} {i : Nat} {o : Oper} (ho : ops[i]? = some o) {e : Edge} (he : e ∈ o.after) (hb : Region.binds md e = true) : waits? md ops i e.on = true := by
  unfold waits?
  rw [ho]
  simp only [List.any_eq_true, Bool.and_eq_true, beq_iff_eq]
  exact ⟨e, by simpa using he, hb, rfl⟩
theorem of_waits {md : Region.Mode} {ops : Array Oper} {i j : Nat} {o : Oper} (ho : ops[i]? = some o) (h : waits? md ops i j = true) : ∃ e ∈ o.after, Region.binds md e = true ∧ e.on = j := by
  unfold waits? at h
  rw [ho] at h
  simp only [List.any_eq_true, Bool.and_eq_true, beq_iff_eq] at h
  obtain ⟨e, h1, h2, h3⟩ := h
  exact ⟨e, by simpa using h1, h2, h3⟩
theorem low_of {md : Region.Mode} {ops : Array Oper} (hl : lowEdges md ops = true) {i : Nat} {o : Oper} (ho : ops[i]? = some o) {e : Edge} (he : e ∈ o.after) (hb : Region.binds md e = true) : e.on < i := by
  unfold lowEdges at hl
  rw [List.all_eq_true] at hl
  have := hl i (by rw [List.mem_range]; exact (Array.getElem?_eq_some_iff.1 ho).1)
  rw [ho] at this
  simp only [List.all_eq_true] at this
  have := this e (by simpa using he)
  simpa [hb] using this
theorem getD_false_true {l : Array Bool} {i : Nat} (h : l.getD i true = false) : l.getD i false = false := by
  simp only [Array.getD_eq_getD_getElem?] at h ⊢
  cases hh : l[i]? with
  | none => rfl
  | some b => rw [hh] at h; exact h
theorem getD_true_false {l : Array Bool} {i : Nat} (hi : i < l.size) (h : l.getD i false = false) : l.getD i true = false := by
  simp only [Array.getD_eq_getD_getElem?] at h ⊢
  rw [Array.getElem?_eq_getElem hi] at h ⊢
  exact h
theorem count_set (l : List Bool) : ∀ (i : Nat), l[i]? = some false → (l.set i true).count false + 1 = l.count false := by
  induction l with
  | nil => intro i h; simp at h
  | cons b r ih =>
    intro i h
    cases i with
    | zero => simp at h; subst h; simp
    | succ i =>
      simp only [List.getElem?_cons_succ] at h
      have := ih i h
      simp only [List.set_cons_succ, List.count_cons]
      omega
theorem listed_of_count {l : Array Bool} (h : l.toList.count false = 0) {i : Nat} (hi : i < l.size) : l.getD i false = true := by
  rw [List.count_eq_zero] at h
  simp only [Array.getD_eq_getD_getElem?, Array.getElem?_eq_getElem hi]
  cases hb : l[i] with
  | true => rfl
  | false =>
    exfalso
    apply h
    rw [← hb]
    simp
theorem set_getD (l : Array Bool) (i j : Nat) (hi : i < l.size) : (l.setIfInBounds i true).getD j false = if i = j then true else l.getD j false := by
  simp only [Array.getD_eq_getD_getElem?, Array.getElem?_setIfInBounds]
  by_cases h : i = j
  · subst h; simp [hi]
  · simp [h]
/-- A REGION THAT DRAWS ITS ORDER, BY AN INVARIANT on what has come up, the frame and the world: each operation is looked at once, whatever came before it. -/
theorem wpAnyH_inv {P : Program} {md : Region.Mode} {ops : Array Oper} {Q : Exit → Act → World → Prop} (I : Array Bool → Act → World → Prop) (hlow : lowEdges md ops = true)
    (hstep : ∀ listed a w, listed.size = ops.size → Closed md ops listed → I listed a w → ∀ i, i < ops.size → listed.getD i false = false → (∀ j, waits? md ops i j = true → listed.getD j false = true) → wpOp P ops Q i (fun a' w' => I (listed.setIfInBounds i true) a' w') a w)
    (hdone : ∀ listed a w, I listed a w → (∀ i, i < ops.size → listed.getD i false = true) → Q .normal a w) :
    ∀ (fuel : Nat) (listed : Array Bool) (a : Act) (w : World), listed.size = ops.size → listed.toList.count false = fuel → Closed md ops listed → I listed a w → wpAnyH P md ops Q (fun _ => True) fuel listed a w
  | 0, listed, a, w, hs, hc, _, hI => by
    have hall : ∀ i, i < ops.size → listed.getD i false = true := fun i hi => listed_of_count hc (by omega)
    refine ⟨?_, hdone listed a w hI hall⟩
    rw [List.eq_nil_iff_forall_not_mem]
    intro i hi
    obtain ⟨h1, o, ho, _⟩ := mem_ready.1 hi
    have := hall i (Array.getElem?_eq_some_iff.1 ho).1
    rw [getD_false_true h1] at this
    cases this
  | fuel + 1, listed, a, w, hs, hc, hcl, hI => by
    refine ⟨fun hr => hdone listed a w hI ?_, fun i hi => ?_⟩
    · have key : ∀ n i, i < n → i < ops.size → listed.getD i false = true := by
        intro n
        induction n with
        | zero => intro i h; omega
        | succ n ih =>
          intro i hin his
          cases hb : listed.getD i false with
          | true => rfl
          | false =>
            exfalso
            obtain ⟨o, ho⟩ : ∃ o, ops[i]? = some o := ⟨_, Array.getElem?_eq_getElem his⟩
            have : i ∈ Region.ready md ops listed := mem_ready.2 ⟨getD_true_false (by omega) hb, o, ho, fun e he hb => ih e.on (by have := low_of hlow ho he hb; omega) (by have := low_of hlow ho he hb; omega)⟩
            rw [hr] at this
            cases this
      exact fun i hi => key (i + 1) i (by omega) hi
    · obtain ⟨h1, o, ho, hd⟩ := mem_ready.1 hi
      have his := (Array.getElem?_eq_some_iff.1 ho).1
      have hdeps : ∀ j, waits? md ops i j = true → listed.getD j false = true := by
        intro j hj
        obtain ⟨e, he, hb, rfl⟩ := of_waits ho hj
        exact hd e he hb
      have hil : i < listed.size := by omega
      refine wpOp_mono (fun a' w' h => ⟨trivial, ?_⟩) (hstep listed a w hs hcl hI i his (getD_false_true h1) hdeps)
      refine wpAnyH_inv I hlow hstep hdone fuel _ a' w' (by simpa using hs) ?_ ?_ h
      · have hli : listed.toList[i]? = some false := by
          have := getD_false_true h1
          simp only [Array.getD_eq_getD_getElem?, Array.getElem?_eq_getElem hil] at this
          simp only [Array.getElem?_toList, Array.getElem?_eq_getElem hil]
          rw [← this]; rfl
        have := count_set listed.toList i hli
        rw [Array.toList_setIfInBounds]
        omega
      · intro i' j hi' hw
        rw [set_getD _ _ _ hil] at hi' ⊢
        by_cases hij : i = j
        · rw [if_pos hij]
        · rw [if_neg hij]
          by_cases hii : i = i'
          · subst hii; exact hdeps j hw
          · rw [if_neg hii] at hi'
            exact hcl i' j hi' hw
theorem wpOp_val {P : Program} {ops : Array Oper} {Q : Exit → Act → World → Prop} {i : Nat} {o : Oper} {K : Act → World → Prop} {a : Act} {w w' : World} {v : Value} (ho : ops[i]? = some o) (hg : o.guard = none) (hrun : (execOp a.eval o).run P w = .ok (.value v) w') (h : K (a.put o.dst v) w') : wpOp P ops Q i K a w := by
  refine wpOp_step ho fun K' hK => ?_
  rw [if_pos (by simp [Region.wanted, hg])]
  unfold Oper.wp
  rw [hrun]
  exact hK _ _ h
def upd (f : Nat → Value) (i : Nat) (v : Value) : Nat → Value := fun j => if j = i then v else f j
theorem exec_move {P : Program} {ρ : Operand → Value} {o : Oper} {x : Operand} {w : World} (ho : o.op = .move x) : (execOp ρ o).run P w = .ok (.value (ρ x)) w := by
  unfold execOp; rw [ho]; rfl
theorem exec_assign {P : Program} {ρ : Operand → Value} {o : Oper} {x : Operand} {w : World} (ho : o.op = .assign x) : (execOp ρ o).run P w = .ok (.value (ρ x)) w := by
  unfold execOp; rw [ho]; rfl
theorem exec_load {P : Program} {ρ : Operand → Value} {o : Oper} {x : Operand} {w : World} {b off : Nat} {ty : TypeId} (ho : o.op = .load ty x) (hx : ρ x = .pointer (some ⟨b, off, none⟩)) (cs : List Value) (d : TypeDesc) (hc : w.rangeAt b off cs) (hu : P.underlying ty = some d) (hd : d.isRow = true) (hi : (P.info? ty).map (·.size) = some cs.length) : (execOp ρ o).run P w = .ok (.value (.agg cs.toArray)) w := by
  unfold execOp
  simp only [ho, hx, Instr.loadAt, Instr.sureAddr, Sem.run_bind, Sem.run_pure, Result.andThen_ok, run_loadVar_mid w b off ty cs d hc hu hd hi]
theorem exec_slice {P : Program} {ρ : Operand → Value} {o : Oper} {w w' : World} {t : TypeId} {n : Nat} {parts : Array (Nat × Operand)} {vs : Array (Nat × Value)} {v : Value} (ho : o.op = .buildSlice t n parts) (hp : parts.map (fun p => (p.1, ρ p.2)) = vs) (hr : (Instr.buildSlice t n vs).run P w = .ok v w') : (execOp ρ o).run P w = .ok (.value v) w' := by
  unfold execOp
  simp only [ho]
  rw [show (parts.map fun (i, x) => (i, ρ x)) = vs from hp]
  simp only [hr, Sem.run_bind, Sem.run_pure, Result.andThen_ok]
theorem below_al0 {a w : World} {o : Obj} (h : Below a.heap.size a w) : Below a.heap.size a (w.alloc o) := h.alloc h.size o
theorem Act.ext' {a b : Act} (h1 : a.tmps = b.tmps) (h2 : a.defers = b.defers) : a = b := by cases a; cases b; simp_all
theorem eval_tmp (A : Act) (s : Nat) : A.eval (.tmp s) = (A.tmps[s]?).getD undef := by simp [Act.eval]
/-- The frame with f's values in the slots lo .. lo + n - 1. -/
def FR (A : Act) (lo n : Nat) (f : Nat → Value) : Act := { A with tmps := A.tmps.mapIdx fun s u => if lo ≤ s ∧ s < lo + n then f (s - lo) else u }
theorem FR_get (A : Act) (lo n : Nat) (f : Nat → Value) (s : Nat) : (FR A lo n f).tmps[s]? = (A.tmps[s]?).map fun u => if lo ≤ s ∧ s < lo + n then f (s - lo) else u := by
  unfold FR
  simp only [Array.getElem?_mapIdx]
theorem FR_size (A : Act) (lo n : Nat) (f : Nat → Value) : (FR A lo n f).tmps.size = A.tmps.size := by unfold FR; simp
theorem FR_put (A : Act) (lo n : Nat) (f : Nat → Value) (i : Nat) (v : Value) (hi : i < n) : (FR A lo n f).put (some (lo + i)) v = FR A lo n (upd f i v) := by
  refine Act.ext' ?_ rfl
  show (FR A lo n f).tmps.setIfInBounds (lo + i) v = (FR A lo n (upd f i v)).tmps
  apply Array.ext_getElem?
  intro s
  rw [Array.getElem?_setIfInBounds, FR_get, FR_get, FR_size]
  unfold upd
  cases hs : A.tmps[s]? with
  | none =>
    have hle := Array.getElem?_eq_none_iff.1 hs
    simp only [Option.map_none]
    by_cases ht : lo + i = s
    · rw [if_pos ht, if_neg (by omega)]
    · rw [if_neg ht]
  | some u =>
    have hl := (Array.getElem?_eq_some_iff.1 hs).1
    simp only [Option.map_some]
    by_cases hs' : lo + i = s
    · rw [if_pos hs', if_pos (by omega), if_pos (by omega), if_pos (by omega)]
    · rw [if_neg hs']
      by_cases hr : lo ≤ s ∧ s < lo + n
      · rw [if_pos hr, if_pos hr, if_neg (by omega)]
      · rw [if_neg hr, if_neg hr]
theorem FR_eval (A : Act) (lo n : Nat) (hA : lo + n ≤ A.tmps.size) (f : Nat → Value) (i : Nat) (hi : i < n) : (FR A lo n f).eval (.tmp (lo + i)) = f i := by
  rw [eval_tmp, FR_get, Array.getElem?_eq_getElem (by omega)]
  simp only [Option.map_some, Option.getD_some]
  rw [if_pos (by omega), show lo + i - lo = i by omega]
theorem FR_other (A : Act) (lo n : Nat) (f : Nat → Value) (s : Nat) (h : s < lo) : (FR A lo n f).eval (.tmp s) = A.eval (.tmp s) := by
  rw [eval_tmp, eval_tmp, FR_get]
  cases A.tmps[s]? with
  | none => rfl
  | some u =>
    simp only [Option.map_some, Option.getD_some]
    rw [if_neg (by omega)]
theorem FR_self (A : Act) (lo n : Nat) : FR A lo n (fun i => A.eval (.tmp (lo + i))) = A := by
  refine Act.ext' ?_ rfl
  apply Array.ext_getElem?
  intro s
  rw [FR_get]
  cases hs : A.tmps[s]? with
  | none => rfl
  | some u =>
    simp only [Option.map_some, Option.some.injEq]
    by_cases hr : lo ≤ s ∧ s < lo + n
    · rw [if_pos hr, eval_tmp, show lo + (s - lo) = s by omega, hs]
      rfl
    · rw [if_neg hr]
def putsR (A : Act) (lo : Nat) (f : Nat → Value) : Nat → Act
  | 0 => A
  | n + 1 => (putsR A lo f n).put (some (lo + n)) (f n)
theorem FR_puts (A : Act) (lo : Nat) (f : Nat → Value) : ∀ n, FR A lo n f = putsR A lo f n
  | 0 => by
    refine Act.ext' ?_ rfl
    apply Array.ext_getElem?
    intro s
    rw [FR_get]
    cases hs : A.tmps[s]? with
    | none => rw [show (putsR A lo f 0) = A from rfl, hs]; rfl
    | some u =>
      rw [show (putsR A lo f 0) = A from rfl, hs]
      simp only [Option.map_some, Option.some.injEq]
      rw [if_neg (by omega)]
  | n + 1 => by
    show _ = (putsR A lo f n).put (some (lo + n)) (f n)
    rw [← FR_puts A lo f n]
    refine Act.ext' ?_ rfl
    show (FR A lo (n + 1) f).tmps = (FR A lo n f).tmps.setIfInBounds (lo + n) (f n)
    apply Array.ext_getElem?
    intro s
    rw [Array.getElem?_setIfInBounds, FR_get, FR_get, FR_size]
    cases hs : A.tmps[s]? with
    | none =>
      have hle := Array.getElem?_eq_none_iff.1 hs
      simp only [Option.map_none]
      by_cases ht : lo + n = s
      · rw [if_pos ht, if_neg (by omega)]
      · rw [if_neg ht]
    | some u =>
      have hl := (Array.getElem?_eq_some_iff.1 hs).1
      simp only [Option.map_some]
      by_cases hs' : lo + n = s
      · rw [if_pos hs', if_pos (by omega), if_pos (by omega), show s - lo = n by omega]
      · rw [if_neg hs']
        by_cases hr : lo ≤ s ∧ s < lo + n
        · rw [if_pos hr, if_pos (by omega)]
        · rw [if_neg hr, if_neg (by omega)]
theorem blk_keep {w : World} {b : Nat} {o x : Obj} (h : w.heap[b]? = some x) : (w.alloc o).heap[b]? = some x := (heap_past _ _ _ (Array.getElem?_eq_some_iff.1 h).1).trans h
theorem exec_nil {P : Program} {ρ : Operand → Value} {o : Oper} {x : Operand} {w : World} {a : Addr} (ho : o.op = .nilCheck x) (hx : ρ x = .pointer (some a)) : (execOp ρ o).run P w = .ok (.value (.pointer (some a))) w := by
  unfold execOp
  simp only [ho, hx]
  rfl
theorem exec_field {P : Program} {ρ : Operand → Value} {o : Oper} {x : Operand} {w : World} {s k : Nat} {v v' : Value} (hk : (Instr.fieldAt s v k).run P w = .ok v' w) (ho : o.op = .fieldAddr s x k) (hx : ρ x = v) : (execOp ρ o).run P w = .ok (.value v') w := by
  unfold execOp
  simp only [ho, hx, hk, Sem.run_bind, Sem.run_pure, Result.andThen_ok]
theorem exec_load1 {P : Program} {ρ : Operand → Value} {o : Oper} {x : Operand} {w : World} {ty : TypeId} {a v : Value} (hl : (Instr.loadAt ty a).run P w = .ok v w) (ho : o.op = .load ty x) (hx : ρ x = a) : (execOp ρ o).run P w = .ok (.value v) w := by
  unfold execOp
  simp only [ho, hx, hl, Sem.run_bind, Sem.run_pure, Result.andThen_ok]
theorem exec_build {P : Program} {ρ : Operand → Value} {o : Oper} {w : World} {t : TypeId} {parts : Array (Nat × Operand)} {vs : Array (Nat × Value)} {v : Value} (ho : o.op = .build t parts) (hp : parts.map (fun p => (p.1, ρ p.2)) = vs) (hr : (Instr.build t vs).run P w = .ok v w) : (execOp ρ o).run P w = .ok (.value v) w := by
  unfold execOp
  simp only [ho]
  rw [show (parts.map fun (i, x) => (i, ρ x)) = vs from hp]
  simp only [hr, Sem.run_bind, Sem.run_pure, Result.andThen_ok]
theorem wpOp_store {P : Program} {ops : Array Oper} {Q : Exit → Act → World → Prop} {i : Nat} {o : Oper} {K : Act → World → Prop} {a : Act} {w w' : World} {ty : TypeId} {x y : Operand} {vx vy : Value} (ho : ops[i]? = some o) (hg : o.guard = none) (hd : o.dst = none) (hop : o.op = .store ty x y) (hx : a.eval x = vx) (hy : a.eval y = vy) (hs : (Instr.storeAt ty vx vy).run P w = .ok () w') (h : K a w') : wpOp P ops Q i K a w := by
  refine wpOp_step ho fun K' hK => ?_
  rw [if_pos (by simp [Region.wanted, hg])]
  unfold Oper.wp execOp
  simp only [hop, hx, hy, hs, Sem.run_bind, Sem.run_pure, Result.andThen_ok]
  show K' (a.put o.dst undef) w'
  rw [hd]
  exact hK _ _ h
theorem load_cell {ty : TypeId} (hag : ∀ w : World, (isAgg ty).run Yba.prog w = .ok false w) (w : World) (a : Addr) (v : Value) (hc : w.cell? a = some v) : (Instr.loadAt ty (.pointer (some a))).run Yba.prog w = .ok v w := by
  simp [go_sem, hag, hc]
theorem store_slice {ty : TypeId} (hso : ∀ w : World, (sizeOf ty).run Yba.prog w = .ok 1 w) (w : World) (b o : Nat) (av : Option Addr) (n c : Nat) (u : Value) (hc : w.cell? ⟨b, o, none⟩ = some u) (hf : w.frozen? ⟨b, o, none⟩ = false) : (Instr.storeAt ty (.pointer (some ⟨b, o, none⟩)) (.slice av n c)).run Yba.prog w = .ok () (w.setCell ⟨b, o, none⟩ (.slice av n c)) := by
  simp [go_sem, hso, hc, hf]
theorem owns_ne_block {w : World} {base e size n b t : Nat} {v : Value} {xs : List Value} (h : w.ownsRow base e size v n xs) {cs : Array Value} (hb : w.heap[b]? = some (.cells cs t (0, 0))) (ht : t ≠ e) : some b ≠ v.ownBlock := by
  rcases h.2 with ⟨rfl, _⟩ | ⟨g, cap, cur, rfl, _, hg, _⟩
  · simp [Value.ownBlock]
  · intro q
    simp only [Value.ownBlock, Option.some.injEq] at q
    subst q
    rw [hg] at hb
    simp only [Option.some.injEq, Obj.cells.injEq] at hb
    exact ht hb.2.1.symm

end Go.Proofs.Ybulkcrtu
