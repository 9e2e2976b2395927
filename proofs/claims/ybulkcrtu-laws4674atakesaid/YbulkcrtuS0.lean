import Derived.Test.YbulkcrtuK
import Derived.Deep.WholeRow
import Derived.Deep.LoopGhost
namespace Go.Proofs.Ybulkcrtu
open Go.RowKit

/-! ### A frame, by what is known of it -/
def look : List (Nat × Value) → Nat → Option Value
  | [], _ => none
  | (k, v) :: r, s => bif Nat.beq k s then some v else look r s
/-- A has N slots, no deferred call, and holds l. -/
structure At (A : Act) (N : Nat) (l : List (Nat × Value)) : Prop where
  size : A.tmps.size = N
  defers : A.defers = []
  get : ∀ s v, look l s = some v → A.tmps[s]? = some v
def ev (l : List (Nat × Value)) : Operand → Option Value
  | .tmp s => look l s
  | .const v => some v
  | .global g => some (.pointer (some ⟨g, 0, none⟩))
  | .func f => some (.func (.func f) #[] #[])
def evs (l : List (Nat × Value)) : List Operand → Option (List Value)
  | [] => some []
  | x :: r => match ev l x, evs l r with
    | some v, some vs => some (v :: vs)
    | _, _ => none
section
variable {A : Act} {N : Nat} {l : List (Nat × Value)}
theorem At.ev (h : At A N l) {x : Operand} {v : Value} (hx : ev l x = some v) : A.eval x = v := by
  cases x with
  | tmp s => rw [eval_tmp, h.get s v hx]; rfl
  | const u => simpa [Ybulkcrtu.ev, Act.eval] using hx
  | global g => simpa [Ybulkcrtu.ev, Act.eval] using hx
  | func f => simpa [Ybulkcrtu.ev, Act.eval] using hx
theorem At.evs (h : At A N l) : ∀ {xs : List Operand} {vs : List Value}, evs l xs = some vs → xs.map A.eval = vs
  | [], vs, hx => by simp [Ybulkcrtu.evs] at hx; subst hx; rfl
  | x :: r, vs, hx => by
    unfold Ybulkcrtu.evs at hx
    split at hx
    · rename_i v us h1 h2
      simp at hx
      subst hx
      simp only [List.map_cons, h.ev h1, h.evs h2]
    · simp at hx
theorem At.put (h : At A N l) (k : Nat) (v : Value) (hk : Nat.blt k N = true) : At (A.put (some k) v) N ((k, v) :: l) := by
  have hkN : k < A.tmps.size := by rw [h.size]; simp [Nat.blt] at hk; omega
  refine ⟨by simpa [Act.put] using h.size, h.defers, fun s u hs => ?_⟩
  unfold look at hs
  simp only [Act.put, Array.getElem?_setIfInBounds]
  by_cases hb : k = s
  · subst hb
    simp at hs
    subst hs
    simp [hkN]
  · have : Nat.beq k s = false := by rw [← Bool.not_eq_true, Nat.beq_eq]; exact hb
    rw [this] at hs
    rw [if_neg hb]
    exact h.get s u hs
theorem At.cons (h : At A N l) {s : Nat} {v : Value} (hs : A.tmps[s]? = some v) : At A N ((s, v) :: l) := by
  refine ⟨h.size, h.defers, fun t u ht => ?_⟩
  unfold look at ht
  by_cases hb : s = t
  · subst hb
    simp at ht
    subst ht
    exact hs
  · have : Nat.beq s t = false := by rw [← Bool.not_eq_true, Nat.beq_eq]; exact hb
    rw [this] at ht
    exact h.get t u ht
theorem At.nil (h1 : A.tmps.size = N) (h2 : A.defers = []) : At A N [] := ⟨h1, h2, fun _ _ h => by simp [look] at h⟩
def pick (l : List (Nat × Value)) : List Nat → List (Nat × Value)
  | [] => []
  | s :: r => match look l s with
    | some v => (s, v) :: pick l r
    | none => pick l r
theorem At.pick (h : At A N l) : ∀ ks, At A N (pick l ks)
  | [] => At.nil h.size h.defers
  | s :: r => by
    unfold Ybulkcrtu.pick
    split
    · rename_i v hv; exact (h.pick r).cons (h.get s v hv)
    · exact h.pick r
end

/-! ### What an operation does, by what is known of the frame -/
/-- In a frame that holds l, o leaves v in its slot and a world that meets T. -/
def Goes (l : List (Nat × Value)) (o : Oper) (w : World) (v : Value) (T : World → Prop) : Prop :=
  ∀ (a : Act) (N : Nat), At a N l → ∀ (K : Act → World → Prop) (Q : Exit → Act → World → Prop), (∀ w', T w' → K (a.put o.dst v) w') → Oper.wp Yba.prog o a w K Q
def Wants (ops : Array Oper) (l : List (Nat × Value)) (o : Oper) : Prop := ∀ (a : Act) (N : Nat), At a N l → Region.wanted o (yielded ops a.tmps) = true
def Shuns (ops : Array Oper) (l : List (Nat × Value)) (o : Oper) : Prop := ∀ (a : Act) (N : Nat), At a N l → Region.wanted o (yielded ops a.tmps) = false
section
variable {ops : Array Oper} {l : List (Nat × Value)} {o : Oper}
theorem wn (hg : o.guard = none) : Wants ops l o := fun _ _ _ => by simp [Region.wanted, hg]
theorem yielded_at {a : Act} {N : Nat} (h : At a N l) {j s : Nat} {b : Bool} (hj : (ops[j]?).bind (·.dst) = some s) (hs : look l s = some (.bool b)) : yielded ops a.tmps j = some b := by
  unfold yielded
  rw [hj]
  simp only [Option.bind_some, h.get s _ hs]
theorem wy {j s : Nat} {b : Bool} (hg : o.guard = some (j, b)) (hj : (ops[j]?).bind (·.dst) = some s) (hs : look l s = some (.bool b)) : Wants ops l o := fun a N h => by
  simp [Region.wanted, hg, yielded_at h hj hs]
theorem sh {j s : Nat} {b b' : Bool} (hg : o.guard = some (j, b)) (hj : (ops[j]?).bind (·.dst) = some s) (hs : look l s = some (.bool b')) (hb : (b' == b) = false) : Shuns ops l o := fun a N h => by
  simp only [Region.wanted, hg, yielded_at h hj hs]
  cases b <;> cases b' <;> first | rfl | simp at hb
/-- A value that is none. -/
theorem shn {j s : Nat} {b : Bool} (hg : o.guard = some (j, b)) (hj : (ops[j]?).bind (·.dst) = some s) (hs : look l s = some undef) : Shuns ops l o := fun a N h => by
  simp only [Region.wanted, hg]
  unfold yielded
  rw [hj]
  simp only [Option.bind_some, h.get s _ hs, undef]
  rfl
end

/-! ### The steps of a plain region -/
section
variable {ops : Array Oper} {Q : Exit → Act → World → Prop} {rest : List Oper} {o : Oper} {a : Act} {w : World} {N : Nat} {l : List (Nat × Value)}
theorem st {k : Nat} {v : Value} {T : World → Prop} (hA : At a N l) (hw : Wants ops l o) (hp : o.dst = some k) (hk : Nat.blt k N = true) (hgo : Goes l o w v T)
    (h : ∀ a' w', At a' N ((k, v) :: l) → T w' → wpList Yba.prog ops Q rest a' w') : wpList Yba.prog ops Q (o :: rest) a w := by
  refine wpList_step fun K hK => ?_
  rw [if_pos (hw a N hA)]
  refine hgo a N hA K Q fun w' hT => hK _ _ (h _ _ ?_ hT)
  rw [hp]
  exact hA.put k v hk
theorem st0 {k : Nat} {v : Value} (hA : At a N l) (hw : Wants ops l o) (hp : o.dst = some k) (hk : Nat.blt k N = true) (hgo : Goes l o w v (· = w))
    (h : ∀ a', At a' N ((k, v) :: l) → wpList Yba.prog ops Q rest a' w) : wpList Yba.prog ops Q (o :: rest) a w :=
  st hA hw hp hk hgo fun a' w' ha hT => by subst hT; exact h a' ha
theorem stn {v : Value} {T : World → Prop} (hA : At a N l) (hw : Wants ops l o) (hp : o.dst = none) (hgo : Goes l o w v T)
    (h : ∀ w', T w' → wpList Yba.prog ops Q rest a w') : wpList Yba.prog ops Q (o :: rest) a w := by
  refine wpList_step fun K hK => ?_
  rw [if_pos (hw a N hA)]
  refine hgo a N hA K Q fun w' hT => hK _ _ ?_
  rw [hp]
  exact h w' hT
theorem sts {k : Nat} (hA : At a N l) (hw : Shuns ops l o) (hp : o.dst = some k) (hk : Nat.blt k N = true)
    (h : ∀ a', At a' N ((k, undef) :: l) → wpList Yba.prog ops Q rest a' w) : wpList Yba.prog ops Q (o :: rest) a w := by
  refine wpList_step fun K hK => ?_
  rw [if_neg (by rw [hw a N hA]; simp)]
  refine hK _ _ (h _ ?_)
  rw [hp]
  exact hA.put k undef hk
theorem sq {c : Code} {id : Nat} {os : List Oper} (h : wpList Yba.prog os.toArray (Exit.then (c.wp Yba.prog Q) Q) os a w) : (Code.seq (.region id os.toArray false) c).wp Yba.prog Q a w :=
  wp_seq (wp_region_lit h)
theorem fin {c : Code} (h : c.wp Yba.prog Q a w) : wpList Yba.prog ops (Exit.then (c.wp Yba.prog Q) Q) [] a w := h
theorem fin0 (h : Q .normal a w) : wpList Yba.prog ops Q [] a w := h
theorem cdt {c : Operand} {x y : Code} (hA : At a N l) (hc : ev l c = some (.bool true)) (h : x.wp Yba.prog Q a w) : (Code.cond c x y).wp Yba.prog Q a w := wp_cond_true (hA.ev hc) h
theorem cdf {c : Operand} {x y : Code} (hA : At a N l) (hc : ev l c = some (.bool false)) (h : y.wp Yba.prog Q a w) : (Code.cond c x y).wp Yba.prog Q a w := wp_cond_false (hA.ev hc) h
theorem sqt {c : Operand} {x y z : Code} (hA : At a N l) (hc : ev l c = some (.bool true)) (h : x.wp Yba.prog (Exit.then (z.wp Yba.prog Q) Q) a w) : (Code.seq (Code.cond c x y) z).wp Yba.prog Q a w := wp_seq (wp_cond_true (hA.ev hc) h)
theorem sqf {c : Operand} {x y z : Code} (hA : At a N l) (hc : ev l c = some (.bool false)) (h : y.wp Yba.prog (Exit.then (z.wp Yba.prog Q) Q) a w) : (Code.seq (Code.cond c x y) z).wp Yba.prog Q a w := wp_seq (wp_cond_false (hA.ev hc) h)
theorem sqts {c : Operand} {y z : Code} (hA : At a N l) (hc : ev l c = some (.bool true)) (h : z.wp Yba.prog Q a w) : (Code.seq (Code.cond c .skip y) z).wp Yba.prog Q a w := sqt hA hc (wp_skip h)
theorem sqfs {c : Operand} {x z : Code} (hA : At a N l) (hc : ev l c = some (.bool false)) (h : z.wp Yba.prog Q a w) : (Code.seq (Code.cond c x .skip) z).wp Yba.prog Q a w := sqf hA hc (wp_skip h)
theorem sqte {c : Operand} {y z : Code} {i : Nat} (hA : At a N l) (hc : ev l c = some (.bool true)) (h : Q (.exit i) a w) : (Code.seq (Code.cond c (.exit i) y) z).wp Yba.prog Q a w := sqt hA hc (wp_exit h)
theorem sqfe {c : Operand} {x z : Code} {i : Nat} (hA : At a N l) (hc : ev l c = some (.bool false)) (h : Q (.exit i) a w) : (Code.seq (Code.cond c x (.exit i)) z).wp Yba.prog Q a w := sqf hA hc (wp_exit h)
theorem xin {i : Nat} (h : Q .normal a w) : Exit.inBlock i Q (.exit i) a w := by
  show (if i = i then Q .normal a w else Q (.exit i) a w)
  rw [if_pos rfl]; exact h
theorem xout {i j : Nat} (h : Q (.exit j) a w) (hne : Nat.beq j i = false) : Exit.inBlock i Q (.exit j) a w := by
  show (if j = i then Q .normal a w else Q (.exit j) a w)
  rw [if_neg (by intro e; subst e; simp at hne)]; exact h
/-- A loop in its block, then c: a round lowers the number. -/
theorem lp {c z : Code} {i : Nat} (I : Nat → Act → World → Prop) (n : Nat) (h0 : I n a w)
    (round : ∀ n a w, I n a w → c.wp Yba.prog (Exit.then (fun a' w' => ∃ m, m < n ∧ I m a' w') (Exit.inBlock i (Exit.then (z.wp Yba.prog Q) Q))) a w) : (Code.seq (.block i (.loop c)) z).wp Yba.prog Q a w :=
  wp_seq (wp_block (wp_loop_ghost I n h0 round))
theorem sqb {c z : Code} {i : Nat} (h : c.wp Yba.prog (Exit.inBlock i (Exit.then (z.wp Yba.prog Q) Q)) a w) : (Code.seq (.block i c) z).wp Yba.prog Q a w := wp_seq (wp_block h)
end

/-! ### A call's beginning and end -/
def argsL : Nat → List Value → List (Nat × Value)
  | _, [] => []
  | i, v :: r => (i, v) :: argsL (i + 1) r
theorem look_argsL : ∀ (vs : List Value) (i s : Nat) (v : Value), look (argsL i vs) s = some v → i ≤ s ∧ vs[s - i]? = some v
  | [], _, _, _, h => by simp [argsL, look] at h
  | u :: r, i, s, v, h => by
    unfold argsL look at h
    by_cases hb : i = s
    · subst hb
      simp at h
      subst h
      simp
    · have : Nat.beq i s = false := by rw [← Bool.not_eq_true, Nat.beq_eq]; exact hb
      rw [this] at h
      obtain ⟨h1, h2⟩ := look_argsL r (i + 1) s v h
      refine ⟨by omega, ?_⟩
      rw [show s - i = s - (i + 1) + 1 by omega, List.getElem?_cons_succ]
      exact h2
theorem enter {f : FuncId} {fn : Func} {c : Code} {args : List Value} {w : World} {R : Ending → World → Prop} (hf : Yba.prog.funcs[f]? = some fn) (hb : fn.body = some c) (N : Nat) (hN : fn.ntmps = N) (hn : Nat.ble args.length N = true)
    (h : ∀ a, At a N (argsL 0 args) → c.wp Yba.prog (bodyPost Yba.prog fn R) a w) : Calls Yba.prog f args.toArray w R := by
  have hn' : args.length ≤ N := by simpa using hn
  refine calls_of_wp hf hb (h _ ⟨?_, rfl, fun s v hs => ?_⟩)
  · simp [hN]; omega
  · obtain ⟨_, h2⟩ := look_argsL args 0 s v hs
    have h2' : args[s]? = some v := by simpa using h2
    have hl := (List.getElem?_eq_some_iff.1 h2').1
    show (args.toArray ++ _)[s]? = some v
    rw [Array.getElem?_append_left (by simpa using hl)]
    simpa using h2'
section
variable {fn : Func} {R : Ending → World → Prop} {a : Act} {w : World} {N : Nat} {l : List (Nat × Value)}
theorem rt {t : Nat} {v : Value} (hA : At a N l) (hr : fn.results = #[.tmp t]) (hv : look l t = some v) (h : R (.returned v) w) : bodyPost Yba.prog fn R .ret a w := by
  refine bodyPost_ret (results_tmp hr _ _ _) hA.defers ?_
  rw [Array.getD_eq_getD_getElem?, hA.get t v hv]
  exact h
theorem rte (hA : At a N l) (hr : fn.results = #[]) (h : R (.returned (.tuple #[])) w) : bodyPost Yba.prog fn R .normal a w := bodyPost_end (results_none hr _ _ _) hA.defers h
end

/-! ### A region that draws its order -/
def Each (p : Nat → Prop) : Nat → Nat → Prop
  | _, 0 => True
  | i, n + 1 => p i ∧ Each p (i + 1) n
theorem each_all {p : Nat → Prop} : ∀ {n i : Nat}, Each p i n → ∀ j, i ≤ j → j < i + n → p j
  | 0, _, _, _, _, _ => by omega
  | n + 1, i, h, j, h1, h2 => by
    by_cases hj : j = i
    · subst hj; exact h.1
    · exact each_all h.2 j (by omega) (by omega)
def dstOf (ops : List Oper) (j : Nat) : Option Nat := (ops[j]?).bind (·.dst)
def kn (vals : List Value) (ks : List (Nat × Nat)) (l0 : List (Nat × Value)) : List (Nat × Value) := ks.map (fun p => (p.1, vals.getD p.2 undef)) ++ l0
def ckDeps (ops : List Oper) (i : Nat) (ks : List (Nat × Nat)) : Bool := ks.all fun p => (dstOf ops p.2 == some p.1) && waits? .any ops.toArray i p.2
/-- No two write one slot; none writes a slot of l0; every slot is there; edges go back. -/
def ckDst (N : Nat) (ops : List Oper) (l0 : List Nat) : Bool :=
  lowEdges .any ops.toArray && (List.range ops.length).all fun i => match dstOf ops i with
    | none => true
    | some s => Nat.blt s N && l0.all (fun p => !(Nat.beq p s)) && (List.range ops.length).all fun j => Nat.beq i j || !(dstOf ops j == some s)
def outs : List Oper → List Value → List (Nat × Value)
  | o :: os, v :: vs => match o.dst with
    | some s => (s, v) :: outs os vs
    | none => outs os vs
  | _, _ => []
theorem look_append {l m : List (Nat × Value)} {s : Nat} {v : Value} (h : look (l ++ m) s = some v) : look l s = some v ∨ look m s = some v := by
  induction l with
  | nil => exact .inr h
  | cons p r ih =>
    obtain ⟨k, u⟩ := p
    have h' : (bif Nat.beq k s then some u else look (r ++ m) s) = some v := h
    show (bif Nat.beq k s then some u else look r s) = some v ∨ look m s = some v
    cases hb : Nat.beq k s with
    | true => rw [hb] at h'; exact .inl h'
    | false => rw [hb] at h'; exact ih h'
theorem look_mem {l : List (Nat × Value)} {s : Nat} {v : Value} (h : look l s = some v) : (s, v) ∈ l := by
  induction l with
  | nil => simp [look] at h
  | cons p r ih =>
    obtain ⟨k, u⟩ := p
    unfold look at h
    cases hb : Nat.beq k s with
    | true =>
      rw [hb] at h
      have := Nat.eq_of_beq_eq_true hb
      subst this
      simp at h
      subst h
      exact List.mem_cons_self
    | false => rw [hb] at h; exact List.mem_cons_of_mem _ (ih h)
theorem mem_outs : ∀ {os : List Oper} {vs : List Value} {s : Nat} {v : Value}, (s, v) ∈ outs os vs → ∃ j, dstOf os j = some s ∧ vs[j]? = some v ∧ j < os.length
  | [], _, _, _, h => by simp [outs] at h
  | o :: os, [], _, _, h => by simp [outs] at h
  | o :: os, u :: vs, s, v, h => by
    unfold outs at h
    cases hd : o.dst with
    | none =>
      rw [hd] at h
      obtain ⟨j, h1, h2, h3⟩ := mem_outs h
      exact ⟨j + 1, by simpa [dstOf] using h1, by simpa using h2, by simpa using h3⟩
    | some t =>
      rw [hd] at h
      simp only [List.mem_cons, Prod.mk.injEq] at h
      rcases h with ⟨rfl, rfl⟩ | h
      · exact ⟨0, by simp [dstOf, hd], by simp, by simp⟩
      · obtain ⟨j, h1, h2, h3⟩ := mem_outs h
        exact ⟨j + 1, by simpa [dstOf] using h1, by simpa using h2, by simpa using h3⟩
/-- What is asked of operation number i, whatever came before it. -/
def Ob (ops : List Oper) (vals : List Value) (l0 : List (Nat × Value)) (S : (Nat → Bool) → World → Prop) (i : Nat) : Prop :=
  ∀ L : Nat → Bool, L i = false → (∀ j, waits? .any ops.toArray i j = true → L j = true) → (∀ m j, L m = true → waits? .any ops.toArray m j = true → L j = true) → ∀ w, S L w →
    ∀ o, ops[i]? = some o → ∃ ks, ckDeps ops i ks = true ∧
      ((Wants ops.toArray (kn vals ks l0) o ∧ Goes (kn vals ks l0) o w (vals.getD i undef) (fun w' => S (fun j => if j = i then true else L j) w')) ∨
       (Shuns ops.toArray (kn vals ks l0) o ∧ vals.getD i undef = undef ∧ S (fun j => if j = i then true else L j) w))
theorem drawn {ops : List Oper} {Q : Exit → Act → World → Prop} {a : Act} {w : World} {N id : Nat} {l0 : List (Nat × Value)} (vals : List Value) (S : (Nat → Bool) → World → Prop) (hA : At a N l0)
    (hm : Yba.prog.follows .mixedOrders = true) (hck : ckDst N ops (l0.map (·.1)) = true) (h0 : S (fun _ => false) w.drew) (hob : Each (Ob ops vals l0 S) 0 ops.length)
    (hend : ∀ a w', At a N (outs ops vals ++ l0) → ∀ L, (∀ i, i < ops.length → L i = true) → S L w' → Q .normal a w') : (Code.region id ops.toArray true).wp Yba.prog Q a w := by
  unfold ckDst at hck
  rw [Bool.and_eq_true] at hck
  obtain ⟨hlow, hds⟩ := hck
  rw [List.all_eq_true] at hds
  have hdst : ∀ i s, dstOf ops i = some s → s < N ∧ (∀ p ∈ l0, p.1 ≠ s) ∧ ∀ j, dstOf ops j = some s → j = i := by
    intro i s his
    have hi : i < ops.length := by
      unfold dstOf at his
      cases ho : ops[i]? with
      | none => rw [ho] at his; simp at his
      | some o => exact (List.getElem?_eq_some_iff.1 ho).1
    have h1 := hds i (List.mem_range.2 hi)
    rw [his] at h1
    simp only [Bool.and_eq_true, List.all_eq_true, Bool.or_eq_true, Nat.blt, List.mem_map, forall_exists_index, and_imp] at h1
    obtain ⟨⟨h1, h2⟩, h3⟩ := h1
    refine ⟨by simp at h1; omega, fun p hp e => ?_, fun j hj => ?_⟩
    · have := h2 p.1 p hp rfl
      rw [e] at this
      simp at this
    · have hj' : j < ops.length := by
        unfold dstOf at hj
        cases ho : ops[j]? with
        | none => rw [ho] at hj; simp at hj
        | some o => exact (List.getElem?_eq_some_iff.1 ho).1
      rcases h3 j (List.mem_range.2 hj') with h | h
      · exact (Nat.eq_of_beq_eq_true h).symm
      · rw [hj] at h; simp at h
  have hrep : ∀ j, (Array.replicate ops.toArray.size false).getD j false = false := fun j => by
    simp only [Array.getD_eq_getD_getElem?, Array.getElem?_replicate]
    split <;> rfl
  refine wp_region_held (S := fun _ => True) hm ?_
  refine wpAnyH_inv (fun listed a w => At a N l0 ∧ (∀ j s, listed.getD j false = true → dstOf ops j = some s → a.tmps[s]? = some (vals.getD j undef)) ∧ S (fun j => listed.getD j false) w) hlow ?_ ?_ _ _ _ _ ?_ ?_ ?_ ?_
  · rintro listed a w hls hcl ⟨ha, hv, hS⟩ i hi hni hdep
    have hi' : i < ops.length := by simpa using hi
    obtain ⟨o, ho⟩ : ∃ o, ops[i]? = some o := ⟨_, List.getElem?_eq_getElem hi'⟩
    obtain ⟨ks, hks, hgo⟩ := each_all hob i (Nat.zero_le _) (by omega) (fun j => listed.getD j false) hni hdep (fun m j => hcl m j) w hS o ho
    have hak : At a N (kn vals ks l0) := by
      refine ⟨ha.size, ha.defers, fun s v hs => ?_⟩
      rcases look_append hs with h | h
      · have := look_mem h
        simp only [List.mem_map, Prod.mk.injEq] at this
        obtain ⟨p, hp, rfl, rfl⟩ := this
        unfold ckDeps at hks
        rw [List.all_eq_true] at hks
        have := hks p hp
        simp only [Bool.and_eq_true, beq_iff_eq] at this
        exact hv p.2 p.1 (hdep _ this.2) this.1
      · exact ha.get s v h
    have hset : ∀ j, (listed.setIfInBounds i true).getD j false = if j = i then true else listed.getD j false := fun j => by
      rw [set_getD _ _ _ (by omega)]
      by_cases e : i = j
      · subst e; simp
      · rw [if_neg e, if_neg (fun h => e h.symm)]
    have hput : ∀ u, vals.getD i undef = u → At (a.put o.dst u) N l0 ∧ ∀ j s, (listed.setIfInBounds i true).getD j false = true → dstOf ops j = some s → (a.put o.dst u).tmps[s]? = some (vals.getD j undef) := by
      intro u hu
      cases hd : o.dst with
      | none =>
        refine ⟨ha, fun j s hj hs => hv j s ?_ hs⟩
        rw [hset] at hj
        by_cases e : j = i
        · subst e
          unfold dstOf at hs
          rw [ho] at hs
          simp [hd] at hs
        · rwa [if_neg e] at hj
      | some t =>
        have hdi : dstOf ops i = some t := by simp [dstOf, ho, hd]
        obtain ⟨ht, hl0, huniq⟩ := hdst i t hdi
        refine ⟨⟨by simpa [Act.put] using ha.size, ha.defers, fun s v hs => ?_⟩, fun j s hj hs => ?_⟩
        · have : s ≠ t := hl0 _ (look_mem hs)
          simp only [Act.put, Array.getElem?_setIfInBounds]
          rw [if_neg (fun e => this e.symm)]
          exact ha.get s v hs
        · simp only [Act.put, Array.getElem?_setIfInBounds]
          by_cases e : j = i
          · subst e
            rw [hdi] at hs
            simp only [Option.some.injEq] at hs
            subst hs
            rw [if_pos rfl, if_pos (by rw [ha.size]; exact ht), hu]
          · rw [hset, if_neg e] at hj
            have : s ≠ t := by
              rintro rfl
              exact e (huniq j hs)
            rw [if_neg (fun e => this e.symm)]
            exact hv j s hj hs
    have hoa : ops.toArray[i]? = some o := by simpa using ho
    refine wpOp_step hoa fun K' hK => ?_
    rcases hgo with ⟨hw, hgo⟩ | ⟨hw, hu, hS'⟩
    · rw [if_pos (hw a N hak)]
      refine hgo a N hak K' Q fun w' hS' => hK _ _ ⟨(hput _ rfl).1, (hput _ rfl).2, ?_⟩
      simp only [hset]
      exact hS'
    · rw [if_neg (by rw [hw a N hak]; simp)]
      refine hK _ _ ⟨(hput _ hu).1, (hput _ hu).2, ?_⟩
      simp only [hset]
      exact hS'
  · rintro listed a w ⟨ha, hv, hS⟩ hall
    refine hend a w ⟨ha.size, ha.defers, fun s v hs => ?_⟩ _ (fun i hi => hall i (by simpa using hi)) hS
    rcases look_append hs with h | h
    · obtain ⟨j, h1, h2, h3⟩ := mem_outs (look_mem h)
      have := hv j s (hall j (by simpa using h3)) h1
      rw [this, List.getD_eq_getElem?_getD, h2]
      rfl
    · exact ha.get s v h
  · simp
  · simp
  · intro i j hi
    rw [hrep] at hi
    cases hi
  · refine ⟨hA, fun j s hj => ?_, ?_⟩
    · rw [hrep] at hj
      cases hj
    · have : (fun j => (Array.replicate ops.toArray.size false).getD j false) = fun _ => false := by
        funext j
        exact hrep j
      rw [this]
      exact h0
/-- Operation number i leaves its value in a world that meets S, where S' is met. -/
def Do (ops : List Oper) (vals : List Value) (l0 : List (Nat × Value)) (S S' : World → Prop) (i : Nat) : Prop :=
  ∀ w, S w → ∀ o, ops[i]? = some o → ∃ ks, ckDeps ops i ks = true ∧
      ((Wants ops.toArray (kn vals ks l0) o ∧ Goes (kn vals ks l0) o w (vals.getD i undef) S') ∨ (Shuns ops.toArray (kn vals ks l0) o ∧ vals.getD i undef = undef ∧ S' w))
/-- All keep S. -/
theorem drawn_keep {ops : List Oper} {Q : Exit → Act → World → Prop} {a : Act} {w : World} {N id : Nat} {l0 : List (Nat × Value)} (vals : List Value) (S : World → Prop) (hA : At a N l0)
    (hm : Yba.prog.follows .mixedOrders = true) (hck : ckDst N ops (l0.map (·.1)) = true) (h0 : S w.drew) (hob : Each (Do ops vals l0 S S) 0 ops.length)
    (hend : ∀ a w', At a N (outs ops vals ++ l0) → S w' → Q .normal a w') : (Code.region id ops.toArray true).wp Yba.prog Q a w := by
  refine drawn vals (fun _ => S) hA hm hck h0 ?_ (fun a w' ha _ _ hS => hend a w' ha hS)
  have : ∀ n i, i + n = ops.length → Each (Ob ops vals l0 (fun _ => S)) i n := by
    intro n
    induction n with
    | zero => intro i _; trivial
    | succ n ih => exact fun i hi => ⟨fun L _ _ _ w hS o ho => each_all hob i (Nat.zero_le _) (by omega) w hS o ho, ih (i + 1) (by omega)⟩
  exact this _ 0 (by omega)
/-- Number m waits for number i, by way of others. -/
def reach (ops : List Oper) : Nat → Nat → Nat → Bool
  | 0, _, _ => false
  | f + 1, m, i => waits? .any ops.toArray m i || (List.range ops.length).any fun j => waits? .any ops.toArray m j && reach ops f j i
def allWait (ops : List Oper) (m : Nat) : Bool := (List.range ops.length).all fun i => Nat.beq i m || reach ops 6 m i
theorem reach_listed {ops : List Oper} {L : Nat → Bool} (hcl : ∀ m j, L m = true → waits? .any ops.toArray m j = true → L j = true) : ∀ (f m i : Nat), reach ops f m i = true → L m = true → L i = true
  | 0, _, _, h, _ => by simp [reach] at h
  | f + 1, m, i, h, hm => by
    unfold reach at h
    rw [Bool.or_eq_true] at h
    rcases h with h | h
    · exact hcl m i hm h
    · rw [List.any_eq_true] at h
      obtain ⟨j, _, hj⟩ := h
      rw [Bool.and_eq_true] at hj
      exact reach_listed hcl f j i hj.2 (hcl m j hm hj.1)
/-- All keep S but number m, the writer, that waits for all: behind it T is met. -/
theorem drawn_last {ops : List Oper} {Q : Exit → Act → World → Prop} {a : Act} {w : World} {N id : Nat} {l0 : List (Nat × Value)} (vals : List Value) (m : Nat) (S T : World → Prop) (hA : At a N l0)
    (hm : Yba.prog.follows .mixedOrders = true) (hck : ckDst N ops (l0.map (·.1)) = true) (hml : Nat.blt m ops.length = true) (haw : allWait ops m = true) (h0 : S w.drew) (hob : Each (fun i => Do ops vals l0 S (if i = m then T else S) i) 0 ops.length)
    (hend : ∀ a w', At a N (outs ops vals ++ l0) → T w' → Q .normal a w') : (Code.region id ops.toArray true).wp Yba.prog Q a w := by
  have hml' : m < ops.length := by simp [Nat.blt] at hml; omega
  have hw : ∀ i, i < ops.length → i ≠ m → reach ops 6 m i = true := by
    intro i hi hne
    unfold allWait at haw
    rw [List.all_eq_true] at haw
    have := haw i (List.mem_range.2 hi)
    rw [Bool.or_eq_true] at this
    rcases this with h | h
    · exact absurd (Nat.eq_of_beq_eq_true h) hne
    · exact h
  refine drawn vals (fun L w => if L m = true then T w else S w) hA hm hck (by simpa using h0) ?_ (fun a w' ha L hL hS => hend a w' ha (by rw [hL m hml'] at hS; simpa using hS))
  have : ∀ n i, i + n = ops.length → Each (Ob ops vals l0 (fun L w => if L m = true then T w else S w)) i n := by
    intro n
    induction n with
    | zero => intro i _; trivial
    | succ n ih =>
      refine fun i hi => ⟨fun L hL hdep hcl w hS o ho => ?_, ih (i + 1) (by omega)⟩
      have hLm : L m = false := by
        by_cases e : i = m
        · subst e; exact hL
        · cases hh : L m with
          | false => rfl
          | true =>
            have := reach_listed hcl 6 m i (hw i (by omega) e) hh
            rw [hL] at this
            cases this
      have hS1 : S w := by
        have hS' : if L m = true then T w else S w := hS
        rw [hLm] at hS'
        simpa using hS'
      have := each_all hob i (Nat.zero_le _) (by omega) w hS1 o ho
      by_cases e : i = m
      · subst e
        simpa using this
      · rw [if_neg e] at this
        have e' : ¬ m = i := fun h => e h.symm
        simp only [if_neg e', hLm, Bool.false_eq_true, if_false]
        exact this
  exact this _ 0 (by omega)
end Go.Proofs.Ybulkcrtu
