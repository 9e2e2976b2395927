import Derived.Test.YbulkcrtuC
import Derived.Conc.LoneCalls
import Derived.Conc.LoneSelectN
namespace Go.Proofs.Ybulkcrtu
open Go.RowKit Go.Conc

/-- 'Code.wp', for a frame that was entered by a plain call. -/
def wpN (P : Program) (c : Code) (Q : Exit → Act → World → Prop) (a : Act) (w : World) : Prop :=
  ∀ (b : Frame) (k : List Item) (cs : List Frame), b.kind = .normal → ∃ e a' w', Q e a' w' ∧ Arrives P (lone (b.at a (.code c :: k)) cs w) b k cs e a' w'
/-- The same, within a region. -/
def wpR (P : Program) (ops : Array Oper) (Q : Exit → Act → World → Prop) (l : List Nat) (a : Act) (w : World) : Prop :=
  ∀ (b : Frame) (k : List Item) (cs : List Frame), b.kind = .normal → ∃ e a' w', Q e a' w' ∧ Arrives P (lone (b.at a (.inRegion ops l :: k)) cs w) b k cs e a' w'

section
variable {P : Program} {Q : Exit → Act → World → Prop} {a : Act} {w : World}

theorem wpN_of {c : Code} (h : c.wp P Q a w) : wpN P c Q a w := fun b k cs _ => h b k cs
/-- What has arrived behind an item that lets everything by. -/
theorem arrives_by {m : Machine} {b : Frame} {x : Item} {k : List Item} {cs : List Frame} {e : Exit} {a : Act} {w : World} (hx : x.plain = true) (hne : e ≠ .normal) (h : Arrives P m b (x :: k) cs e a w) : Arrives P m b k cs e a w :=
  Arrives.pass hx (fun _ _ => .inl hne) h

theorem wpN_seq {x y : Code} (h : wpN P x (Exit.then (wpN P y Q) Q) a w) : wpN P (.seq x y) Q a w := by
  intro b k cs hb
  obtain ⟨e, a₁, w₁, hq, ha⟩ := h b (.code y :: k) cs hb
  by_cases he : e = .normal
  · subst he
    obtain ⟨e₂, a₂, w₂, hq₂, ha₂⟩ := hq b k cs hb
    exact ⟨e₂, a₂, w₂, hq₂, Arrives.of_steps (Steps.head step_seq ha) ha₂⟩
  · have hq' : Q e a₁ w₁ := by cases e <;> first | exact absurd rfl he | exact hq
    exact ⟨e, a₁, w₁, hq', Arrives.of_steps (Steps.one step_seq) (arrives_by rfl he ha)⟩

theorem wpN_cond {c : Operand} {x y : Code} (t : Bool) (hc : a.eval c = .bool t) (h : wpN P (if t then x else y) Q a w) : wpN P (.cond c x y) Q a w := by
  intro b k cs hb
  obtain ⟨e, a', w', hq, ha⟩ := h b k cs hb
  exact ⟨e, a', w', hq, Arrives.of_steps (Steps.one (step_cond hc)) ha⟩

theorem wpN_block {id : Nat} {c : Code} (h : wpN P c (Exit.inBlock id Q) a w) : wpN P (.block id c) Q a w := by
  intro b k cs hb
  obtain ⟨e, a₁, w₁, hq, ha⟩ := h b (.inBlock id :: k) cs hb
  cases e with
  | normal => exact ⟨.normal, a₁, w₁, hq, Steps.head step_block (Steps.trans ha (Steps.one step_inBlock))⟩
  | exit i =>
    by_cases hi : i = id
    · subst hi
      have hq' : Q .normal a₁ w₁ := by simpa [Exit.inBlock] using hq
      exact ⟨.normal, a₁, w₁, hq', Steps.head step_block (ha k (by simp [exitTo]))⟩
    · have hq' : Q (.exit i) a₁ w₁ := by simpa [Exit.inBlock, hi] using hq
      refine ⟨.exit i, a₁, w₁, hq', fun k' hk => Steps.head step_block (ha k' ?_)⟩
      have hne : (id == i) = false := by simpa using fun h => hi h.symm
      simp [exitTo, hne, hk]
  | goto l => exact ⟨.goto l, a₁, w₁, hq, fun k' hk => Steps.head step_block (ha k' (by simp [gotoIn, hk]))⟩
  | ret => exact ⟨.ret, a₁, w₁, hq, Arrives.of_steps (e := .ret) (Steps.one step_block) ha⟩
  | panic ch => exact ⟨.panic ch, a₁, w₁, hq, Arrives.of_steps (e := .panic ch) (Steps.one step_block) ha⟩
  | outgrown => exact ⟨.outgrown, a₁, w₁, hq, Arrives.of_steps (b := b) (k := k) (cs := cs) (e := .outgrown) (a := a₁) (w := w₁) (Steps.one step_block) ha⟩

theorem wpN_loop {c : Code} (I : Nat → Act → World → Prop) (n : Nat) (h₀ : I n a w)
    (round : ∀ n a w, I n a w → wpN P c (Exit.then (fun a' w' => ∃ m, m < n ∧ I m a' w') Q) a w) : wpN P (.loop c) Q a w := by
  intro b k cs hb
  have key : ∀ n a w, I n a w → ∃ e a' w', Q e a' w' ∧ Arrives P (lone (b.at a (.code c :: .inLoop c :: k)) cs w) b k cs e a' w' := by
    intro n
    induction n using Nat.strongRecOn with
    | _ n ih =>
      intro a w hI
      obtain ⟨e, a₁, w₁, hq, ha⟩ := round n a w hI b (.inLoop c :: k) cs hb
      by_cases he : e = .normal
      · subst he
        obtain ⟨m, hm, hI'⟩ := hq
        obtain ⟨e₂, a₂, w₂, hq₂, ha₂⟩ := ih m hm a₁ w₁ hI'
        exact ⟨e₂, a₂, w₂, hq₂, Arrives.of_steps (Steps.trans ha (Steps.one step_inLoop)) ha₂⟩
      · have hq' : Q e a₁ w₁ := by cases e <;> first | exact absurd rfl he | exact hq
        exact ⟨e, a₁, w₁, hq', arrives_by rfl he ha⟩
  obtain ⟨e, a', w', hq, ha⟩ := key n a w h₀
  exact ⟨e, a', w', hq, Arrives.of_steps (Steps.one step_loop) ha⟩

theorem wpN_region {id : Nat} {ops : Array Oper} (h : wpR P ops Q (List.range ops.size) a w) : wpN P (.region id ops false) Q a w := by
  intro b k cs hb
  obtain ⟨e, a', w', hq, ha⟩ := h b k cs hb
  exact ⟨e, a', w', hq, Arrives.of_steps (Steps.one step_region) ha⟩

theorem wpR_nil {ops : Array Oper} (h : Q .normal a w) : wpR P ops Q [] a w := fun _ _ _ _ => ⟨.normal, a, w, h, Steps.one step_region_end⟩

theorem wpR_val {ops : Array Oper} {i : Nat} {rest : List Nat} {o : Oper} {v : Value} {w' : World} (ho : ops[i]? = some o) (hg : o.guard = none) (hr : (execOp a.eval o).run P w = .ok (.value v) w') (h : wpR P ops Q rest (a.put o.dst v) w') : wpR P ops Q (i :: rest) a w := by
  intro b k cs hb
  obtain ⟨e, a₁, w₁, hq, ha⟩ := h b k cs hb
  refine ⟨e, a₁, w₁, hq, Arrives.of_steps (Steps.one (step_lone_go ?_)) ha⟩
  have hw : Region.wanted o (yielded ops a.tmps) = true := by simp [Region.wanted, hg]
  rw [Go.stepG_op ho hw]
  have hf := Frame.finish_at b a ops i rest k v
  rw [ho] at hf
  simp only [Option.bind_some] at hf
  rw [← hf]
  simp [stepG.apply, hr]

theorem wpR_send {ops : Array Oper} {i : Nat} {rest : List Nat} {o : Oper} {x y : Operand} {c cap s r : Nat} {buf : Array Value} {v : Value} {tm : Bool} (ho : ops[i]? = some o) (hg : o.guard = none) (hop : o.op = .send x y) (hx : a.eval x = .chan (some c)) (hy : a.eval y = v)
    (hc : w.heap[c]? = some (.chan cap buf false s r tm)) (hroom : buf.size < cap) (h : wpR P ops Q rest (a.put o.dst undef) (w.setChan c cap (buf.push v) false (s + 1) r tm)) : wpR P ops Q (i :: rest) a w := by
  intro b k cs hb
  obtain ⟨e, a₁, w₁, hq, ha⟩ := h b k cs hb
  have hw : Region.wanted o (yielded ops a.tmps) = true := by simp [Region.wanted, hg]
  have hst := step_lone_send_room (P := P) (c := c) (cap := cap) (buf := buf) (s := s) (r := r) (tm := tm) (stepG_comm (b := b) (a := a) (k := k) (cs := cs) (w := w) (rest := rest) (cases := #[scase c v (.tuple #[])]) (blocking := true) (shape := .send) (w' := w) (P := P) ho hw (by rw [hb]; decide) (by simp [execOp, hop, hx, hy, scase])) hc hroom
  refine ⟨e, a₁, w₁, hq, Arrives.of_steps (Steps.one ?_) ha⟩
  have hf := Frame.finish_at b a ops i rest k undef
  rw [ho] at hf
  simp only [Option.bind_some] at hf
  rw [← hf]
  exact hst

theorem wpR_recv {ops : Array Oper} {i : Nat} {rest : List Nat} {o : Oper} {x : Operand} {t : TypeId} {c cap s r : Nat} {buf : Array Value} {z : Value} {tm closed : Bool} (ho : ops[i]? = some o) (hg : o.guard = none) (hr : (execOp a.eval o).run P w = .ok (.comm #[rcase c z] true (.recv false)) w) (_hop : o.op = .recv t x false)
    (hc : w.heap[c]? = some (.chan cap buf closed s r tm)) (hsome : 0 < buf.size) (h : wpR P ops Q rest (a.put o.dst (buf.getD 0 undef)) (w.setChan c cap (buf.extract 1 buf.size) closed s (r + 1) tm)) : wpR P ops Q (i :: rest) a w := by
  intro b k cs hb
  obtain ⟨e, a₁, w₁, hq, ha⟩ := h b k cs hb
  have hw : Region.wanted o (yielded ops a.tmps) = true := by simp [Region.wanted, hg]
  have hst := step_lone_recv_buf (P := P) false (c := c) (cap := cap) (buf := buf) (s := s) (r := r) (tm := tm) (closed := closed) (z := z) (stepG_comm (b := b) (a := a) (k := k) (cs := cs) (w := w) (rest := rest) (cases := #[rcase c z]) (blocking := true) (shape := .recv false) (w' := w) (P := P) ho hw (by rw [hb]; decide) hr) hc hsome
  refine ⟨e, a₁, w₁, hq, Arrives.of_steps (Steps.one ?_) ha⟩
  have hf := Frame.finish_at b a ops i rest k (buf.getD 0 undef)
  rw [ho] at hf
  simp only [Option.bind_some] at hf
  rw [← hf]
  exact hst

theorem calls_of_wpN {f : FuncId} {fn : Func} {c : Code} {args : Array Value} {R : Ending → World → Prop} (hf : P.funcs[f]? = some fn) (hb : fn.body = some c)
    (h : wpN P c (bodyPost P fn R) { tmps := args ++ Array.replicate (fn.ntmps - args.size) undef, defers := [] } w) : Calls P f args w R := by
  intro cs
  obtain ⟨e, a', w', hq, ha⟩ := h { (default : Frame) with fn := f, kind := .normal } [] cs rfl
  have hen : Frame.enter P f args .normal = ({ (default : Frame) with fn := f, kind := .normal } : Frame).at { tmps := args ++ Array.replicate (fn.ntmps - args.size) undef, defers := [] } [.code c] := by
    simp [Frame.enter, Frame.at, hf, hb]
  rw [← hen] at ha
  cases e with
  | normal =>
    obtain ⟨h1, v, h2, h3⟩ := hq
    exact ⟨.returned v, w', _, h3, Steps.trans ha (Steps.one step_end), rfl, rfl, h1, rfl, fn, hf, h2⟩
  | ret =>
    obtain ⟨h1, v, h2, h3⟩ := hq
    obtain ⟨_, hs⟩ := ha
    exact ⟨.returned v, w', _, h3, hs, rfl, rfl, h1, rfl, fn, hf, h2⟩
  | panic ch =>
    obtain ⟨h1, h2⟩ := hq
    obtain ⟨_, hs⟩ := ha
    exact ⟨.panicked ch, w', _, h2, hs, rfl, rfl, h1, fn, hf⟩
  | exit _ => exact hq.elim
  | goto _ => exact hq.elim
  | outgrown => exact ⟨.outgrown, w', { (default : Frame) with fn := f, kind := .normal }, hq, ha.resolve_left (by simp), rfl, trivial⟩
end

end Go.Proofs.Ybulkcrtu
