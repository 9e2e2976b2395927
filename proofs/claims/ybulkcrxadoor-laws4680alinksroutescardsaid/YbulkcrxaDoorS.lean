import Derived.Test.YbulkcrxaDoorR
import Derived.Great.BuildSlice
namespace Go.Proofs.YbulkcrxaDoor
open Go.RowKit

def slot29 (i : Nat) : Nat := if i = 20 then 3 else 142 + i
def upd (f : Nat → Value) (i : Nat) (v : Value) : Nat → Value := fun j => if j = i then v else f j
def z51 : List Value := [.int .u64 0, .int .u64 0, .pointer none, .int .u8 0]
def opIs (ops : Array Oper) (i : Nat) (op : Op) : Prop := ∃ o, ops[i]? = some o ∧ o.op = op ∧ o.guard = none ∧ o.dst = some (slot29 i)

def Val (w : World) (base N : Nat) (x y : ByteArray) (u3 : Value) : Nat → Value → Prop
  | 0, v => v = u3
  | 1, v => v = .string (hx x)
  | 2, v => v = .pointer (some ⟨N, 0, none⟩)
  | 3, v => v = .pointer (some ⟨N, 1, none⟩)
  | 4, v => v = .agg z51.toArray
  | 5, v => v = .string PS
  | 6, v => v = .string (tov y)
  | 7, v => ORow w base v ((endRows x y).getD 0 [])
  | 8, v => v = .string (hx x)
  | 9, v => v = .pointer (some ⟨N, 0, none⟩)
  | 10, v => v = .pointer (some ⟨N, 5, none⟩)
  | 11, v => v = .agg z51.toArray
  | 12, v => v = .string PS
  | 13, v => v = .string (tov y)
  | 14, v => ORow w base v ((endRows x y).getD 1 [])
  | 15, v => v = .string (hx x)
  | 16, v => v = .string (tov y)
  | 17, v => ORow w base v ((endRows x y).getD 2 [])
  | 18, v => ∃ b v1 v2 v3, v = .slice (some ⟨b, 0, none⟩) 3 3 ∧ w.heap[b]? = some (.cells #[v1, v2, v3] 22 (0, 0)) ∧ ORow w base v1 ((endRows x y).getD 0 []) ∧ ORow w base v2 ((endRows x y).getD 1 []) ∧ ORow w base v3 ((endRows x y).getD 2 [])
  | _, _ => True

theorem Val.mono {w w' : World} {base N : Nat} {x y : ByteArray} {u3 : Value} (hb : Below w.heap.size w w') {i : Nat} {v : Value} (h : Val w base N x y u3 i v) : Val w' base N x y u3 i v := by
  match i with
  | 0 | 1 | 2 | 3 | 4 | 5 | 6 | 8 | 9 | 10 | 11 | 12 | 13 | 15 | 16 => exact h
  | 7 | 14 | 17 => exact ORow.below h hb
  | 18 =>
    obtain ⟨b, v1, v2, v3, e, hh, h1, h2, h3⟩ := h
    exact ⟨b, v1, v2, v3, e, (hb.block b (Array.getElem?_eq_some_iff.1 hh).1).trans hh, h1.below hb, h2.below hb, h3.below hb⟩
  | _ + 19 => exact trivial

def J29 (w0 : World) (base N M : Nat) (x y : ByteArray) (cM : Obj) (u3 : Value) (LL : List (List ByteArray)) (listed : Array Bool) (f : Nat → Value) (w : World) : Prop :=
  w.heap[N]? = some (.cells (linkCells (x, y)).toArray 66 (0, 0)) ∧ w.heap[M]? = some cM ∧ Below base w0 w ∧ (listed.getD 20 false = false → f 20 = u3) ∧
  (listed.getD 19 false = false → OMat w base u3 LL ∧ ∀ i, listed.getD i false = true → Val w base N x y u3 i (f i)) ∧ (listed.getD 19 false = true → OMat w base (f 19) (LL ++ endRows x y)) ∧ (listed.getD 20 false = true → f 20 = f 19)

theorem J29.step {w0 w w' : World} {base N M : Nat} {x y : ByteArray} {cM : Obj} {u3 : Value} {LL : List (List ByteArray)} {listed : Array Bool} {f : Nat → Value} (h : J29 w0 base N M x y cM u3 LL listed f w) {i : Nat} {v : Value} (hi : i < 19) (his : i < listed.size) (h19 : listed.getD 19 false = false) (h20 : listed.getD 20 false = false) (hbase : base ≤ w.heap.size) (hb : Below w.heap.size w w') (hv : Val w' base N x y u3 i v) :
    J29 w0 base N M x y cM u3 LL (listed.setIfInBounds i true) (upd f i v) w' := by
  obtain ⟨hN, hM, hB, hu, hl, _, _⟩ := h
  have e19 : (listed.setIfInBounds i true).getD 19 false = false := by rw [set_getD _ _ _ his, if_neg (by omega)]; exact h19
  have e20 : (listed.setIfInBounds i true).getD 20 false = false := by rw [set_getD _ _ _ his, if_neg (by omega)]; exact h20
  refine ⟨(hb.block N (Array.getElem?_eq_some_iff.1 hN).1).trans hN, (hb.block M (Array.getElem?_eq_some_iff.1 hM).1).trans hM, hB.trans (hb.mono hbase), fun _ => ?_, fun _ => ⟨(hl h19).1.below hb, fun j hj => ?_⟩, fun e => ?_, fun e => ?_⟩
  · show (if 20 = i then v else f 20) = u3
    rw [if_neg (by omega)]; exact hu h20
  · rw [set_getD _ _ _ his] at hj
    show Val w' base N x y u3 j (if j = i then v else f j)
    by_cases hij : i = j
    · subst hij; rw [if_pos rfl]; exact hv
    · rw [if_neg hij] at hj
      rw [if_neg (Ne.symm hij)]
      exact ((hl h19).2 j hj).mono hb
  · rw [e19] at e; cases e
  · rw [e20] at e; cases e

theorem exec_move {P : Program} {ρ : Operand → Value} {o : Oper} {x : Operand} {w : World} (ho : o.op = .move x) : (execOp ρ o).run P w = .ok (.value (ρ x)) w := by
  unfold execOp; rw [ho]; rfl
theorem exec_assign {P : Program} {ρ : Operand → Value} {o : Oper} {x : Operand} {w : World} (ho : o.op = .assign x) : (execOp ρ o).run P w = .ok (.value (ρ x)) w := by
  unfold execOp; rw [ho]; rfl
theorem exec_load {P : Program} {ρ : Operand → Value} {o : Oper} {x : Operand} {w : World} {b off : Nat} {ty : TypeId} (ho : o.op = .load ty x) (hx : ρ x = .pointer (some ⟨b, off, none⟩)) (cs : List Value) (d : TypeDesc) (hc : w.rangeAt b off cs) (hu : P.underlying ty = some d) (hd : d.isRow = true) (hi : (P.info? ty).map (·.size) = some cs.length) : (execOp ρ o).run P w = .ok (.value (.agg cs.toArray)) w := by
  unfold execOp
  simp only [ho, hx, Instr.loadAt, Instr.sureAddr, Sem.run_bind, Sem.run_pure, Result.andThen_ok, run_loadVar_mid w b off ty cs d hc hu hd hi]
theorem exec_slice {P : Program} {ρ : Operand → Value} {o : Oper} {w w' : World} {t : TypeId} {n : Nat} {parts : Array (Nat × Operand)} {vs : Array (Nat × Value)} {v : Value} (ho : o.op = .buildSlice t n parts) (hp : parts.map (fun p => (p.1, ρ p.2)) = vs) (hr : (Instr.buildSlice t n vs).run P w = .ok v w') : (execOp ρ o).run P w = .ok (.value v) w' := by
  unfold execOp
  simp only [ho]
  rw [show (parts.map fun (i, x) => (i, ρ x)) = vs from hp]
  simp only [hr, Sem.run_bind, Sem.run_pure, Result.andThen_ok]

theorem exec_index66 {ρ : Operand → Value} {o : Oper} {x : Operand} {w : World} {b : Nat} (ho : o.op = .indexAddr 66 x (.const (.int .i64 0))) (hx : ρ x = .pointer (some ⟨b, 0, none⟩)) (hc : ρ (.const (.int .i64 0)) = .int .i64 0) : (execOp ρ o).run Ybad.prog w = .ok (.value (.pointer (some ⟨b, 0, none⟩))) w := by
  unfold execOp
  simp only [ho, hx, hc]
  rfl
theorem exec_field56 {ρ : Operand → Value} {o : Oper} {x : Operand} {w : World} {b : Nat} (k d : Nat) (hk : (Instr.fieldAt 56 (.pointer (some ⟨b, 0, none⟩)) k).run Ybad.prog w = .ok (.pointer (some ⟨b, d, none⟩)) w) (ho : o.op = .fieldAddr 56 x k) (hx : ρ x = .pointer (some ⟨b, 0, none⟩)) : (execOp ρ o).run Ybad.prog w = .ok (.value (.pointer (some ⟨b, d, none⟩))) w := by
  unfold execOp
  simp only [ho, hx, hk, Sem.run_bind, Sem.run_pure, Result.andThen_ok]
theorem field56_1 (w : World) (b : Nat) : (Instr.fieldAt 56 (.pointer (some ⟨b, 0, none⟩)) 1).run Ybad.prog w = .ok (.pointer (some ⟨b, 1, none⟩)) w := by kernel_rfl
theorem field56_2 (w : World) (b : Nat) : (Instr.fieldAt 56 (.pointer (some ⟨b, 0, none⟩)) 2).run Ybad.prog w = .ok (.pointer (some ⟨b, 5, none⟩)) w := by kernel_rfl
theorem info51s : (Ybad.prog.info? 51).map (·.size) = some 4 := by kernel_rfl

theorem row8 (a b c : ByteArray) (w : World) : (Instr.buildSlice 22 8 #[(0, .string ⟨#[105, 112]⟩), (1, .string ⟨#[45, 110]⟩), (2, .string a), (3, .string ⟨#[97, 100, 100, 114]⟩), (4, .string ⟨#[97, 100, 100]⟩), (5, .string b), (6, .string ⟨#[100, 101, 118]⟩), (7, .string c)]).run Ybad.prog w =
    .ok (.slice (some ⟨w.heap.size, 0, none⟩) 8 8) (w.alloc (.cells #[.string ⟨#[105, 112]⟩, .string ⟨#[45, 110]⟩, .string a, .string ⟨#[97, 100, 100, 114]⟩, .string ⟨#[97, 100, 100]⟩, .string b, .string ⟨#[100, 101, 118]⟩, .string c] 9)) := by kernel_rfl
theorem row9 (a b c : ByteArray) (w : World) : (Instr.buildSlice 22 9 #[(0, .string ⟨#[105, 112]⟩), (1, .string ⟨#[45, 110]⟩), (2, .string a), (3, .string ⟨#[97, 100, 100, 114]⟩), (4, .string ⟨#[97, 100, 100]⟩), (5, .string b), (6, .string ⟨#[100, 101, 118]⟩), (7, .string c), (8, .string ⟨#[110, 111, 100, 97, 100]⟩)]).run Ybad.prog w =
    .ok (.slice (some ⟨w.heap.size, 0, none⟩) 9 9) (w.alloc (.cells #[.string ⟨#[105, 112]⟩, .string ⟨#[45, 110]⟩, .string a, .string ⟨#[97, 100, 100, 114]⟩, .string ⟨#[97, 100, 100]⟩, .string b, .string ⟨#[100, 101, 118]⟩, .string c, .string ⟨#[110, 111, 100, 97, 100]⟩] 9)) := by kernel_rfl
theorem row7 (a c : ByteArray) (w : World) : (Instr.buildSlice 22 7 #[(0, .string ⟨#[105, 112]⟩), (1, .string ⟨#[45, 110]⟩), (2, .string a), (3, .string ⟨#[108, 105, 110, 107]⟩), (4, .string ⟨#[115, 101, 116]⟩), (5, .string c), (6, .string ⟨#[117, 112]⟩)]).run Ybad.prog w =
    .ok (.slice (some ⟨w.heap.size, 0, none⟩) 7 7) (w.alloc (.cells #[.string ⟨#[105, 112]⟩, .string ⟨#[45, 110]⟩, .string a, .string ⟨#[108, 105, 110, 107]⟩, .string ⟨#[115, 101, 116]⟩, .string c, .string ⟨#[117, 112]⟩] 9)) := by kernel_rfl
theorem row3 (a1 a2 a3 : Option Addr) (n1 n2 n3 c1 c2 c3 : Nat) (w : World) : (Instr.buildSlice 35 3 #[(0, .slice a1 n1 c1), (1, .slice a2 n2 c2), (2, .slice a3 n3 c3)]).run Ybad.prog w = .ok (.slice (some ⟨w.heap.size, 0, none⟩) 3 3) (w.alloc (.cells #[.slice a1 n1 c1, .slice a2 n2 c2, .slice a3 n3 c3] 22)) := by kernel_rfl

theorem enter9 (v : Value) (w : World) : (callFunc 9 (#[v] ++ #[])).run Ybad.prog w = .ok (.enter 9 #[v]) w := by kernel_rfl
theorem exec_call9 {ρ : Operand → Value} {o : Oper} {x : Operand} {w : World} {v : Value} (hop : o.op = .call { callee := .value (.func 9), args := #[x], argTypes := #[51] }) (hf : ρ (.func 9) = .func (.func 9) #[] #[]) (hx : ρ x = v) : (execOp ρ o).run Ybad.prog w = .ok (.enter 9 #[v]) w := by
  unfold execOp
  simp only [hop, resolve, hf, List.map_toArray, List.map_cons, List.map_nil, hx]
  exact enter9 v w

theorem wpOp_call9 {ops : Array Oper} {Q : Exit → Act → World → Prop} {i : Nat} {o : Oper} {K : Act → World → Prop} {a : Act} {w : World} {x : Operand} (ho : ops[i]? = some o) (hg : o.guard = none) (hop : o.op = .call { callee := .value (.func 9), args := #[x], argTypes := #[51] }) (hx : a.eval x = .agg z51.toArray)
    (h : K (a.put o.dst (.string PS)) ((w.alloc Z51).alloc Z51)) : wpOp Ybad.prog ops Q i K a w := by
  refine wpOp_step ho fun K' hK => ?_
  rw [if_pos (by simp [Region.wanted, hg])]
  unfold Oper.wp
  rw [exec_call9 hop rfl hx]
  refine (pstr_zero w).mono ?_
  rintro e w1 ⟨rfl, rfl⟩
  exact hK _ _ h

theorem below_al0 {a w : World} {o : Obj} (h : Below a.heap.size a w) : Below a.heap.size a (w.alloc o) := h.alloc h.size o
theorem OMat.ne_block {w : World} {base : Nat} {V : Value} {LL : List (List ByteArray)} (h : OMat w base V LL) {b t : Nat} {cs : Array Value} (hb : w.heap[b]? = some (.cells cs t (0, 0))) (ht : t ≠ 22) : some b ≠ V.ownBlock := by
  obtain ⟨vs, h1, _⟩ := h
  rcases h1.2 with ⟨rfl, _⟩ | ⟨g, cap, cur, rfl, _, hg, _⟩
  · simp [Value.ownBlock]
  · intro e
    simp only [Value.ownBlock, Option.some.injEq] at e
    subst e
    rw [hg] at hb
    simp only [Option.some.injEq, Obj.cells.injEq] at hb
    exact ht hb.2.1.symm

def edges29 : List (Nat × Nat) := [(3, 2), (4, 3), (5, 4), (7, 1), (7, 5), (7, 6), (10, 9), (11, 10), (12, 11), (14, 8), (14, 12), (14, 13), (17, 15), (17, 16), (18, 7), (18, 14), (18, 17), (19, 0), (19, 18), (20, 19)]

theorem all19 {ops : Array Oper} (hw : ∀ p ∈ edges29, waits? .any ops p.1 p.2 = true) {listed : Array Bool} (hcl : Closed .any ops listed) (h : listed.getD 19 false = true) (i : Nat) (hi : i < 19) : listed.getD i false = true := by
  have go : ∀ a b, (a, b) ∈ edges29 → listed.getD a false = true → listed.getD b false = true := fun a b hab ha => hcl a b ha (hw (a, b) hab)
  have h18 := go 19 18 (by decide) h
  have h7 := go 18 7 (by decide) h18
  have h14 := go 18 14 (by decide) h18
  have h17 := go 18 17 (by decide) h18
  have h5 := go 7 5 (by decide) h7
  have h4 := go 5 4 (by decide) h5
  have h3 := go 4 3 (by decide) h4
  have h12 := go 14 12 (by decide) h14
  have h11 := go 12 11 (by decide) h12
  have h10 := go 11 10 (by decide) h11
  match i, hi with
  | 0, _ => exact go 19 0 (by decide) h
  | 1, _ => exact go 7 1 (by decide) h7
  | 2, _ => exact go 3 2 (by decide) h3
  | 3, _ => exact h3
  | 4, _ => exact h4
  | 5, _ => exact h5
  | 6, _ => exact go 7 6 (by decide) h7
  | 7, _ => exact h7
  | 8, _ => exact go 14 8 (by decide) h14
  | 9, _ => exact go 10 9 (by decide) h10
  | 10, _ => exact h10
  | 11, _ => exact h11
  | 12, _ => exact h12
  | 13, _ => exact go 14 13 (by decide) h14
  | 14, _ => exact h14
  | 15, _ => exact go 17 15 (by decide) h17
  | 16, _ => exact go 17 16 (by decide) h17
  | 17, _ => exact h17
  | 18, _ => exact h18
  | n + 19, h => omega

def cs8 (a b c : Operand) : Array (Nat × Operand) := #[(0, .const (.string ⟨#[105, 112]⟩)), (1, .const (.string ⟨#[45, 110]⟩)), (2, a), (3, .const (.string ⟨#[97, 100, 100, 114]⟩)), (4, .const (.string ⟨#[97, 100, 100]⟩)), (5, b), (6, .const (.string ⟨#[100, 101, 118]⟩)), (7, c)]
def cs9 (a b c : Operand) : Array (Nat × Operand) := #[(0, .const (.string ⟨#[105, 112]⟩)), (1, .const (.string ⟨#[45, 110]⟩)), (2, a), (3, .const (.string ⟨#[97, 100, 100, 114]⟩)), (4, .const (.string ⟨#[97, 100, 100]⟩)), (5, b), (6, .const (.string ⟨#[100, 101, 118]⟩)), (7, c), (8, .const (.string ⟨#[110, 111, 100, 97, 100]⟩))]
def cs7 (a c : Operand) : Array (Nat × Operand) := #[(0, .const (.string ⟨#[105, 112]⟩)), (1, .const (.string ⟨#[45, 110]⟩)), (2, a), (3, .const (.string ⟨#[108, 105, 110, 107]⟩)), (4, .const (.string ⟨#[115, 101, 116]⟩)), (5, c), (6, .const (.string ⟨#[117, 112]⟩))]

theorem ends_region {ops : Array Oper} {Q : Exit → Act → World → Prop} {w0 W : World} {base N M : Nat} {x y : ByteArray} {cM : Array Value} {u3 : Value} {LL : List (List ByteArray)} {id : Nat} (F : (Nat → Value) → Act)
    (hput : ∀ f i v, i < 21 → (F f).put (some (slot29 i)) v = F (upd f i v)) (hev : ∀ f i, i < 21 → (F f).eval (.tmp (slot29 i)) = f i)
    (h15 : ∀ f, (F f).eval (.tmp 15) = .pointer (some ⟨N, 0, none⟩)) (h16 : ∀ f, (F f).eval (.tmp 16) = .string (hx x)) (h17 : ∀ f, (F f).eval (.tmp 17) = .string (tov y))
    (hsz : ops.size = 21) (hlow : lowEdges .any ops = true) (hw : ∀ p ∈ edges29, waits? .any ops p.1 p.2 = true) (hm : Ybad.prog.follows .mixedOrders = true)
    (o0 : opIs ops 0 (.move (.tmp 3))) (o1 : opIs ops 1 (.move (.tmp 16))) (o2 : opIs ops 2 (.indexAddr 66 (.tmp 15) (.const (.int .i64 0)))) (o3 : opIs ops 3 (.fieldAddr 56 (.tmp 144) 1)) (o4 : opIs ops 4 (.load 51 (.tmp 145)))
    (o5 : opIs ops 5 (.call { callee := .value (.func 9), args := #[.tmp 146], argTypes := #[51] })) (o6 : opIs ops 6 (.move (.tmp 17))) (o7 : opIs ops 7 (.buildSlice 22 8 (cs8 (.tmp 143) (.tmp 147) (.tmp 148))))
    (o8 : opIs ops 8 (.move (.tmp 16))) (o9 : opIs ops 9 (.indexAddr 66 (.tmp 15) (.const (.int .i64 0)))) (o10 : opIs ops 10 (.fieldAddr 56 (.tmp 151) 2)) (o11 : opIs ops 11 (.load 51 (.tmp 152)))
    (o12 : opIs ops 12 (.call { callee := .value (.func 9), args := #[.tmp 153], argTypes := #[51] })) (o13 : opIs ops 13 (.move (.tmp 17))) (o14 : opIs ops 14 (.buildSlice 22 9 (cs9 (.tmp 150) (.tmp 154) (.tmp 155))))
    (o15 : opIs ops 15 (.move (.tmp 16))) (o16 : opIs ops 16 (.move (.tmp 17))) (o17 : opIs ops 17 (.buildSlice 22 7 (cs7 (.tmp 157) (.tmp 158)))) (o18 : opIs ops 18 (.buildSlice 35 3 #[(0, .tmp 149), (1, .tmp 156), (2, .tmp 159)]))
    (o19 : opIs ops 19 (.call { callee := .builtin .append, args := #[.tmp 142, .tmp 160], argTypes := #[35, 35] })) (o20 : opIs ops 20 (.assign (.tmp 161)))
    (hN : W.heap[N]? = some (.cells (linkCells (x, y)).toArray 66 (0, 0))) (hM : W.heap[M]? = some (.cells cM 66 (0, 0))) (hB : Below base w0 W) (hb0 : base ≤ w0.heap.size) (hMat : OMat W base u3 LL) (hLL : LL.length ≤ 1000000) (f0 : Nat → Value) (hf0 : f0 20 = u3)
    (hQ : ∀ f w', OMat w' base (f 20) (LL ++ endRows x y) → Below base w0 w' → w'.heap[M]? = some (.cells cM 66 (0, 0)) → Q .normal (F f) w') : (Code.region id ops true).wp Ybad.prog Q (F f0) W := by
  refine wp_region_held (S := fun _ => True) hm ?_
  refine wpAnyH_inv (fun listed a w => ∃ f, a = F f ∧ J29 w0 base N M x y (.cells cM 66 (0, 0)) u3 LL listed f w) hlow ?step ?done ops.size _ _ _ (by simp) (by simp) ?closed ⟨f0, rfl, ?init⟩
  case closed =>
    intro i j hi _
    simp only [Array.getD_eq_getD_getElem?, Array.getElem?_replicate] at hi
    split at hi <;> cases hi
  case init =>
    refine ⟨hN, hM, hB.drew, fun _ => hf0, fun _ => ⟨hMat, fun i hi => ?_⟩, fun h => ?_, fun h => ?_⟩
    · simp only [Array.getD_eq_getD_getElem?, Array.getElem?_replicate] at hi
      split at hi <;> cases hi
    · simp only [Array.getD_eq_getD_getElem?, Array.getElem?_replicate] at h
      split at h <;> cases h
    · simp only [Array.getD_eq_getD_getElem?, Array.getElem?_replicate] at h
      split at h <;> cases h
  case done =>
    rintro listed a w ⟨f, rfl, hN', hM', hB', _, _, h6, h7⟩ hall
    refine hQ f w ?_ hB' hM'
    rw [h7 (hall 20 (by omega))]
    exact h6 (hall 19 (by omega))
  case step =>
    rintro listed a w hs hcl ⟨f, rfl, hJ⟩ i hi hu hd
    have hd' : ∀ j, (i, j) ∈ edges29 → listed.getD j false = true := fun j hj => hd j (hw (i, j) hj)
    have hbase : base ≤ w.heap.size := Nat.le_trans hb0 hJ.2.2.1.size
    have h20 : i < 20 → listed.getD 20 false = false := by
      intro hi20
      cases hb : listed.getD 20 false with
      | false => rfl
      | true =>
        have t19 := hcl 20 19 hb (hw (20, 19) (by decide))
        rcases Nat.lt_or_ge i 19 with h | h
        · rw [all19 hw hcl t19 i h] at hu; cases hu
        · have : i = 19 := by omega
          subst this
          rw [t19] at hu; cases hu
    have his : i < listed.size := by omega
    by_cases hi19 : i < 19
    · have h19 : listed.getD 19 false = false := by
        cases hb : listed.getD 19 false with
        | false => rfl
        | true => rw [all19 hw hcl hb i hi19] at hu; cases hu
      have h20' := h20 (by omega)
      obtain ⟨hMt, hval⟩ := hJ.2.2.2.2.1 h19
      have hN' := hJ.1
      have fin : ∀ (o : Oper) (v : Value) (w' : World), o.dst = some (slot29 i) → Below w.heap.size w w' → Val w' base N x y u3 i v → ∃ f', (F f).put o.dst v = F f' ∧ J29 w0 base N M x y (.cells cM 66 (0, 0)) u3 LL (listed.setIfInBounds i true) f' w' :=
        fun o v w' hds hb hv => ⟨upd f i v, by rw [hds]; exact hput f i v (by omega), hJ.step hi19 his h19 h20' hbase hb hv⟩
      match i, hi19, hd', fin with
      | 0, _, _, fin =>
        obtain ⟨o, ho, hop, hg, hds⟩ := o0
        exact wpOp_val ho hg (exec_move hop) (fin _ _ _ hds (Below.refl _ _) ((hev f 20 (by omega)).trans (hJ.2.2.2.1 h20')))
      | 1, _, _, fin =>
        obtain ⟨o, ho, hop, hg, hds⟩ := o1
        exact wpOp_val ho hg (exec_move hop) (fin _ _ _ hds (Below.refl _ _) (h16 f))
      | 2, _, _, fin =>
        obtain ⟨o, ho, hop, hg, hds⟩ := o2
        exact wpOp_val ho hg (exec_index66 hop (h15 f) rfl) (fin _ _ _ hds (Below.refl _ _) rfl)
      | 3, _, hd', fin =>
        obtain ⟨o, ho, hop, hg, hds⟩ := o3
        exact wpOp_val ho hg (exec_field56 1 1 (field56_1 w N) hop ((hev f 2 (by omega)).trans (hval 2 (hd' 2 (by decide))))) (fin _ _ _ hds (Below.refl _ _) rfl)
      | 4, _, hd', fin =>
        obtain ⟨o, ho, hop, hg, hds⟩ := o4
        exact wpOp_val ho hg (exec_load hop ((hev f 3 (by omega)).trans (hval 3 (hd' 3 (by decide)))) z51 _ (range_of_block [.string x] z51 (z51 ++ endCells y) hN') Ybad.underlying51 rfl info51s) (fin _ _ _ hds (Below.refl _ _) rfl)
      | 5, _, hd', fin =>
        obtain ⟨o, ho, hop, hg, hds⟩ := o5
        exact wpOp_call9 ho hg hop ((hev f 4 (by omega)).trans (hval 4 (hd' 4 (by decide)))) (fin _ _ _ hds (below_al0 (below_al0 (Below.refl _ _))) rfl)
      | 6, _, _, fin =>
        obtain ⟨o, ho, hop, hg, hds⟩ := o6
        exact wpOp_val ho hg (exec_move hop) (fin _ _ _ hds (Below.refl _ _) (h17 f))
      | 7, _, hd', fin =>
        obtain ⟨o, ho, hop, hg, hds⟩ := o7
        have e1 : (F f).eval (.tmp 143) = .string (hx x) := (hev f 1 (by omega)).trans (hval 1 (hd' 1 (by decide)))
        have e5 : (F f).eval (.tmp 147) = .string PS := (hev f 5 (by omega)).trans (hval 5 (hd' 5 (by decide)))
        have e6 : (F f).eval (.tmp 148) = .string (tov y) := (hev f 6 (by omega)).trans (hval 6 (hd' 6 (by decide)))
        exact wpOp_val ho hg (exec_slice hop (by simp only [cs8, List.map_toArray, List.map_cons, List.map_nil, e1, e5, e6]; rfl) (row8 (hx x) PS (tov y) w)) (fin _ _ _ hds (below_alloc _ _) (orow_at _ (heap1a _ _) rfl rfl hbase (by omega)))
      | 8, _, _, fin =>
        obtain ⟨o, ho, hop, hg, hds⟩ := o8
        exact wpOp_val ho hg (exec_move hop) (fin _ _ _ hds (Below.refl _ _) (h16 f))
      | 9, _, _, fin =>
        obtain ⟨o, ho, hop, hg, hds⟩ := o9
        exact wpOp_val ho hg (exec_index66 hop (h15 f) rfl) (fin _ _ _ hds (Below.refl _ _) rfl)
      | 10, _, hd', fin =>
        obtain ⟨o, ho, hop, hg, hds⟩ := o10
        exact wpOp_val ho hg (exec_field56 2 5 (field56_2 w N) hop ((hev f 9 (by omega)).trans (hval 9 (hd' 9 (by decide))))) (fin _ _ _ hds (Below.refl _ _) rfl)
      | 11, _, hd', fin =>
        obtain ⟨o, ho, hop, hg, hds⟩ := o11
        exact wpOp_val ho hg (exec_load hop ((hev f 10 (by omega)).trans (hval 10 (hd' 10 (by decide)))) z51 _ (range_of_block (.string x :: z51) z51 (endCells y) hN') Ybad.underlying51 rfl info51s) (fin _ _ _ hds (Below.refl _ _) rfl)
      | 12, _, hd', fin =>
        obtain ⟨o, ho, hop, hg, hds⟩ := o12
        exact wpOp_call9 ho hg hop ((hev f 11 (by omega)).trans (hval 11 (hd' 11 (by decide)))) (fin _ _ _ hds (below_al0 (below_al0 (Below.refl _ _))) rfl)
      | 13, _, _, fin =>
        obtain ⟨o, ho, hop, hg, hds⟩ := o13
        exact wpOp_val ho hg (exec_move hop) (fin _ _ _ hds (Below.refl _ _) (h17 f))
      | 14, _, hd', fin =>
        obtain ⟨o, ho, hop, hg, hds⟩ := o14
        have e1 : (F f).eval (.tmp 150) = .string (hx x) := (hev f 8 (by omega)).trans (hval 8 (hd' 8 (by decide)))
        have e5 : (F f).eval (.tmp 154) = .string PS := (hev f 12 (by omega)).trans (hval 12 (hd' 12 (by decide)))
        have e6 : (F f).eval (.tmp 155) = .string (tov y) := (hev f 13 (by omega)).trans (hval 13 (hd' 13 (by decide)))
        exact wpOp_val ho hg (exec_slice hop (by simp only [cs9, List.map_toArray, List.map_cons, List.map_nil, e1, e5, e6]; rfl) (row9 (hx x) PS (tov y) w)) (fin _ _ _ hds (below_alloc _ _) (orow_at _ (heap1a _ _) rfl rfl hbase (by omega)))
      | 15, _, _, fin =>
        obtain ⟨o, ho, hop, hg, hds⟩ := o15
        exact wpOp_val ho hg (exec_move hop) (fin _ _ _ hds (Below.refl _ _) (h16 f))
      | 16, _, _, fin =>
        obtain ⟨o, ho, hop, hg, hds⟩ := o16
        exact wpOp_val ho hg (exec_move hop) (fin _ _ _ hds (Below.refl _ _) (h17 f))
      | 17, _, hd', fin =>
        obtain ⟨o, ho, hop, hg, hds⟩ := o17
        have e1 : (F f).eval (.tmp 157) = .string (hx x) := (hev f 15 (by omega)).trans (hval 15 (hd' 15 (by decide)))
        have e6 : (F f).eval (.tmp 158) = .string (tov y) := (hev f 16 (by omega)).trans (hval 16 (hd' 16 (by decide)))
        exact wpOp_val ho hg (exec_slice hop (by simp only [cs7, List.map_toArray, List.map_cons, List.map_nil, e1, e6]; rfl) (row7 (hx x) (tov y) w)) (fin _ _ _ hds (below_alloc _ _) (orow_at _ (heap1a _ _) rfl rfl hbase (by omega)))
      | 18, _, hd', fin =>
        obtain ⟨o, ho, hop, hg, hds⟩ := o18
        have r7 : ORow w base (f 7) ((endRows x y).getD 0 []) := hval 7 (hd' 7 (by decide))
        have r14 : ORow w base (f 14) ((endRows x y).getD 1 []) := hval 14 (hd' 14 (by decide))
        have r17 : ORow w base (f 17) ((endRows x y).getD 2 []) := hval 17 (hd' 17 (by decide))
        obtain ⟨a1, c1, s1⟩ := r7.shape
        obtain ⟨a2, c2, s2⟩ := r14.shape
        obtain ⟨a3, c3, s3⟩ := r17.shape
        have e1 : (F f).eval (.tmp 149) = f 7 := hev f 7 (by omega)
        have e2 : (F f).eval (.tmp 156) = f 14 := hev f 14 (by omega)
        have e3 : (F f).eval (.tmp 159) = f 17 := hev f 17 (by omega)
        rw [s1] at e1 r7
        rw [s2] at e2 r14
        rw [s3] at e3 r17
        exact wpOp_val ho hg (exec_slice hop (by simp only [List.map_toArray, List.map_cons, List.map_nil, e1, e2, e3]) (row3 a1 a2 a3 _ _ _ c1 c2 c3 w)) (fin _ _ _ hds (below_alloc _ _) ⟨_, _, _, _, rfl, heap1a _ _, r7.below (below_alloc _ _), r14.below (below_alloc _ _), r17.below (below_alloc _ _)⟩)
      | n + 19, h, _, _ => omega
    · by_cases hi20 : i = 19
      · subst hi20
        obtain ⟨hN', hM', hB', h4, h5, _, h7⟩ := hJ
        obtain ⟨hMt, hval⟩ := h5 hu
        obtain ⟨o, ho, hop, hg, hds⟩ := o19
        have r0 : (F f).eval (.tmp 142) = u3 := (hev f 0 (by omega)).trans (hval 0 (hd' 0 (by decide)))
        obtain ⟨b, v1, v2, v3, e18, hb18, q1, q2, q3⟩ : Val w base N x y u3 18 (f 18) := hval 18 (hd' 18 (by decide))
        have r18 : (F f).eval (.tmp 160) = .slice (some ⟨b, 0, none⟩) 3 3 := (hev f 18 (by omega)).trans e18
        refine wpOp_step ho fun K' hK => step_omat hg (.tmp 142) (.tmp 160) hop u3 LL (endRows x y) #[v1, v2, v3] b 3 3 r0 hMt r18 hb18 rfl rfl ?_ hLL (by omega) hbase (fun V' w1 hM1 hb1 hg1 => hK _ _ ⟨upd f 19 V', by rw [hds]; exact hput f 19 V' (by omega), ?_⟩)
        · intro i hi
          match i, hi with
          | 0, _ => exact ⟨_, rfl, q1⟩
          | 1, _ => exact ⟨_, rfl, q2⟩
          | 2, _ => exact ⟨_, rfl, q3⟩
          | n + 3, h => exfalso; simp [endRows] at h; omega
        · have hNl := (Array.getElem?_eq_some_iff.1 hN').1
          have hMl := (Array.getElem?_eq_some_iff.1 hM').1
          refine ⟨(hg1.block N hNl (hMt.ne_block hN' (by decide))).trans hN', (hg1.block M hMl (hMt.ne_block hM' (by decide))).trans hM', hB'.trans hb1, fun _ => h4 (h20 (by omega)), fun h => ?_, fun _ => hM1, fun h => ?_⟩
          · rw [set_getD _ _ _ his, if_pos rfl] at h; cases h
          · rw [set_getD _ _ _ his, if_neg (by omega), h20 (by omega)] at h; cases h
      · have : i = 20 := by omega
        subst this
        obtain ⟨hN', hM', hB', h4, h5, h6, h7⟩ := hJ
        have t19 := hd' 19 (by decide)
        obtain ⟨o, ho, hop, hg, hds⟩ := o20
        refine wpOp_val ho hg (exec_assign hop) ⟨upd f 20 ((F f).eval (.tmp 161)), by rw [hds]; exact hput f 20 _ (by omega), hN', hM', hB', fun h => ?_, fun h => ?_, fun _ => h6 t19, fun _ => hev f 19 (by omega)⟩
        · rw [set_getD _ _ _ his, if_pos rfl] at h; cases h
        · rw [set_getD _ _ _ his, if_neg (by omega), t19] at h; cases h

/-- The frame with f's values in the region's slots. -/
def F29 (A : Act) (f : Nat → Value) : Act := { A with tmps := A.tmps.mapIdx fun s u => if 142 ≤ s ∧ s ≤ 161 then f (s - 142) else if s = 3 then f 20 else u }
def puts29 (A : Act) (f : Nat → Value) : Act := ((((((((((((((((((((A.put (some 142) (f 0)).put (some 143) (f 1)).put (some 144) (f 2)).put (some 145) (f 3)).put (some 146) (f 4)).put (some 147) (f 5)).put (some 148) (f 6)).put (some 149) (f 7)).put (some 150) (f 8)).put (some 151) (f 9)).put (some 152) (f 10)).put (some 153) (f 11)).put (some 154) (f 12)).put (some 155) (f 13)).put (some 156) (f 14)).put (some 157) (f 15)).put (some 158) (f 16)).put (some 159) (f 17)).put (some 160) (f 18)).put (some 161) (f 19)).put (some 3) (f 20)

theorem Act.ext' {a b : Act} (h1 : a.tmps = b.tmps) (h2 : a.defers = b.defers) : a = b := by cases a; cases b; simp_all

theorem F29_get (A : Act) (f : Nat → Value) (s : Nat) : (F29 A f).tmps[s]? = (A.tmps[s]?).map fun u => if 142 ≤ s ∧ s ≤ 161 then f (s - 142) else if s = 3 then f 20 else u := by
  unfold F29
  simp only [Array.getElem?_mapIdx]
theorem F29_size (A : Act) (f : Nat → Value) : (F29 A f).tmps.size = A.tmps.size := by unfold F29; simp
theorem F29_put (A : Act) (f : Nat → Value) (i : Nat) (v : Value) (hi : i < 21) : (F29 A f).put (some (slot29 i)) v = F29 A (upd f i v) := by
  refine Act.ext' ?_ rfl
  show (F29 A f).tmps.setIfInBounds (slot29 i) v = (F29 A (upd f i v)).tmps
  apply Array.ext_getElem?
  intro s
  rw [Array.getElem?_setIfInBounds, F29_get, F29_get, F29_size]
  unfold slot29 upd
  cases hs : A.tmps[s]? with
  | none =>
    have hle := Array.getElem?_eq_none_iff.1 hs
    generalize (if i = 20 then 3 else 142 + i) = t
    simp only [Option.map_none]
    by_cases ht : t = s
    · rw [if_pos ht, if_neg (by omega)]
    · rw [if_neg ht]
  | some u =>
    have hl := (Array.getElem?_eq_some_iff.1 hs).1
    simp only [Option.map_some]
    by_cases hi20 : i = 20
    · subst hi20
      simp only [if_true]
      by_cases h3 : 3 = s
      · subst h3; simp [hl]
      · rw [if_neg h3, if_neg (Ne.symm h3)]
        by_cases hr : 142 ≤ s ∧ s ≤ 161
        · rw [if_pos hr, if_pos hr, if_neg (by omega)]
        · rw [if_neg hr, if_neg hr, if_neg (Ne.symm h3)]
    · rw [if_neg hi20]
      by_cases hs' : 142 + i = s
      · rw [if_pos hs', if_pos (by omega), if_pos (by omega), if_pos (by omega)]
      · rw [if_neg hs']
        by_cases hr : 142 ≤ s ∧ s ≤ 161
        · rw [if_pos hr, if_pos hr, if_neg (by omega)]
        · rw [if_neg hr, if_neg hr]
          by_cases h3 : s = 3
          · rw [if_pos h3, if_pos h3, if_neg (by omega)]
          · rw [if_neg h3, if_neg h3]
theorem eval_tmp (A : Act) (s : Nat) : A.eval (.tmp s) = (A.tmps[s]?).getD undef := by simp [Act.eval]
theorem F29_eval (A : Act) (hA : A.tmps.size = 211) (f : Nat → Value) (i : Nat) (hi : i < 21) : (F29 A f).eval (.tmp (slot29 i)) = f i := by
  rw [eval_tmp, F29_get]
  unfold slot29
  by_cases hi20 : i = 20
  · subst hi20
    simp [hA]
  · rw [if_neg hi20, Array.getElem?_eq_getElem (by omega)]
    simp only [Option.map_some, Option.getD_some]
    rw [if_pos (by omega), show 142 + i - 142 = i by omega]
theorem F29_other (A : Act) (f : Nat → Value) (s : Nat) (h : s < 142) (h3 : s ≠ 3) : (F29 A f).eval (.tmp s) = A.eval (.tmp s) := by
  rw [eval_tmp, eval_tmp, F29_get]
  cases A.tmps[s]? with
  | none => rfl
  | some u =>
    simp only [Option.map_some, Option.getD_some]
    rw [if_neg (by omega), if_neg h3]
theorem F29_self (A : Act) : F29 A (fun i => A.eval (.tmp (slot29 i))) = A := by
  refine Act.ext' ?_ rfl
  apply Array.ext_getElem?
  intro s
  rw [F29_get]
  cases hs : A.tmps[s]? with
  | none => rfl
  | some u =>
    simp only [Option.map_some, Option.some.injEq]
    by_cases hr : 142 ≤ s ∧ s ≤ 161
    · rw [if_pos hr, eval_tmp]
      unfold slot29
      rw [if_neg (by omega), show 142 + (s - 142) = s by omega, hs]
      rfl
    · rw [if_neg hr]
      by_cases h3 : s = 3
      · subst h3
        rw [if_pos rfl, eval_tmp]
        unfold slot29
        rw [if_pos rfl, hs]
        rfl
      · rw [if_neg h3]
theorem F29_congr (A : Act) {f g : Nat → Value} (h : ∀ i, i < 21 → f i = g i) : F29 A f = F29 A g := by
  refine Act.ext' ?_ rfl
  apply Array.ext_getElem?
  intro s
  rw [F29_get, F29_get]
  congr 1
  funext u
  by_cases hr : 142 ≤ s ∧ s ≤ 161
  · rw [if_pos hr, if_pos hr, h _ (by omega)]
  · rw [if_neg hr, if_neg hr, h 20 (by omega)]
theorem F29_puts (A : Act) (f : Nat → Value) : F29 A f = puts29 A f := by
  have s0 : A.put (some 142) (f 0) = F29 A (upd (fun i => A.eval (.tmp (slot29 i))) 0 (f 0)) := (congrArg (fun a : Act => a.put (some 142) (f 0)) (F29_self A).symm).trans (F29_put A _ 0 (f 0) (by omega))
  have s1 := (congrArg (fun a : Act => a.put (some 143) (f 1)) s0).trans (F29_put A _ 1 (f 1) (by omega))
  have s2 := (congrArg (fun a : Act => a.put (some 144) (f 2)) s1).trans (F29_put A _ 2 (f 2) (by omega))
  have s3 := (congrArg (fun a : Act => a.put (some 145) (f 3)) s2).trans (F29_put A _ 3 (f 3) (by omega))
  have s4 := (congrArg (fun a : Act => a.put (some 146) (f 4)) s3).trans (F29_put A _ 4 (f 4) (by omega))
  have s5 := (congrArg (fun a : Act => a.put (some 147) (f 5)) s4).trans (F29_put A _ 5 (f 5) (by omega))
  have s6 := (congrArg (fun a : Act => a.put (some 148) (f 6)) s5).trans (F29_put A _ 6 (f 6) (by omega))
  have s7 := (congrArg (fun a : Act => a.put (some 149) (f 7)) s6).trans (F29_put A _ 7 (f 7) (by omega))
  have s8 := (congrArg (fun a : Act => a.put (some 150) (f 8)) s7).trans (F29_put A _ 8 (f 8) (by omega))
  have s9 := (congrArg (fun a : Act => a.put (some 151) (f 9)) s8).trans (F29_put A _ 9 (f 9) (by omega))
  have s10 := (congrArg (fun a : Act => a.put (some 152) (f 10)) s9).trans (F29_put A _ 10 (f 10) (by omega))
  have s11 := (congrArg (fun a : Act => a.put (some 153) (f 11)) s10).trans (F29_put A _ 11 (f 11) (by omega))
  have s12 := (congrArg (fun a : Act => a.put (some 154) (f 12)) s11).trans (F29_put A _ 12 (f 12) (by omega))
  have s13 := (congrArg (fun a : Act => a.put (some 155) (f 13)) s12).trans (F29_put A _ 13 (f 13) (by omega))
  have s14 := (congrArg (fun a : Act => a.put (some 156) (f 14)) s13).trans (F29_put A _ 14 (f 14) (by omega))
  have s15 := (congrArg (fun a : Act => a.put (some 157) (f 15)) s14).trans (F29_put A _ 15 (f 15) (by omega))
  have s16 := (congrArg (fun a : Act => a.put (some 158) (f 16)) s15).trans (F29_put A _ 16 (f 16) (by omega))
  have s17 := (congrArg (fun a : Act => a.put (some 159) (f 17)) s16).trans (F29_put A _ 17 (f 17) (by omega))
  have s18 := (congrArg (fun a : Act => a.put (some 160) (f 18)) s17).trans (F29_put A _ 18 (f 18) (by omega))
  have s19 := (congrArg (fun a : Act => a.put (some 161) (f 19)) s18).trans (F29_put A _ 19 (f 19) (by omega))
  have s20 := (congrArg (fun a : Act => a.put (some 3) (f 20)) s19).trans (F29_put A _ 20 (f 20) (by omega))
  refine Eq.trans ?_ s20.symm
  apply F29_congr
  intro i hi
  match i, hi with
  | 0, _ => rfl
  | 1, _ => rfl
  | 2, _ => rfl
  | 3, _ => rfl
  | 4, _ => rfl
  | 5, _ => rfl
  | 6, _ => rfl
  | 7, _ => rfl
  | 8, _ => rfl
  | 9, _ => rfl
  | 10, _ => rfl
  | 11, _ => rfl
  | 12, _ => rfl
  | 13, _ => rfl
  | 14, _ => rfl
  | 15, _ => rfl
  | 16, _ => rfl
  | 17, _ => rfl
  | 18, _ => rfl
  | 19, _ => rfl
  | 20, _ => rfl
  | n + 21, h => omega

theorem ends_region_at {ops : Array Oper} {Q : Exit → Act → World → Prop} {w0 W : World} {base N M : Nat} {x y : ByteArray} {cM : Array Value} {u3 : Value} {LL : List (List ByteArray)} {id : Nat} (A : Act) (hA : A.tmps.size = 211)
    (h15 : A.eval (.tmp 15) = .pointer (some ⟨N, 0, none⟩)) (h16 : A.eval (.tmp 16) = .string (hx x)) (h17 : A.eval (.tmp 17) = .string (tov y))
    (hsz : ops.size = 21) (hlow : lowEdges .any ops = true) (hw : ∀ p ∈ edges29, waits? .any ops p.1 p.2 = true) (hm : Ybad.prog.follows .mixedOrders = true)
    (o0 : opIs ops 0 (.move (.tmp 3))) (o1 : opIs ops 1 (.move (.tmp 16))) (o2 : opIs ops 2 (.indexAddr 66 (.tmp 15) (.const (.int .i64 0)))) (o3 : opIs ops 3 (.fieldAddr 56 (.tmp 144) 1)) (o4 : opIs ops 4 (.load 51 (.tmp 145)))
    (o5 : opIs ops 5 (.call { callee := .value (.func 9), args := #[.tmp 146], argTypes := #[51] })) (o6 : opIs ops 6 (.move (.tmp 17))) (o7 : opIs ops 7 (.buildSlice 22 8 (cs8 (.tmp 143) (.tmp 147) (.tmp 148))))
    (o8 : opIs ops 8 (.move (.tmp 16))) (o9 : opIs ops 9 (.indexAddr 66 (.tmp 15) (.const (.int .i64 0)))) (o10 : opIs ops 10 (.fieldAddr 56 (.tmp 151) 2)) (o11 : opIs ops 11 (.load 51 (.tmp 152)))
    (o12 : opIs ops 12 (.call { callee := .value (.func 9), args := #[.tmp 153], argTypes := #[51] })) (o13 : opIs ops 13 (.move (.tmp 17))) (o14 : opIs ops 14 (.buildSlice 22 9 (cs9 (.tmp 150) (.tmp 154) (.tmp 155))))
    (o15 : opIs ops 15 (.move (.tmp 16))) (o16 : opIs ops 16 (.move (.tmp 17))) (o17 : opIs ops 17 (.buildSlice 22 7 (cs7 (.tmp 157) (.tmp 158)))) (o18 : opIs ops 18 (.buildSlice 35 3 #[(0, .tmp 149), (1, .tmp 156), (2, .tmp 159)]))
    (o19 : opIs ops 19 (.call { callee := .builtin .append, args := #[.tmp 142, .tmp 160], argTypes := #[35, 35] })) (o20 : opIs ops 20 (.assign (.tmp 161)))
    (hN : W.heap[N]? = some (.cells (linkCells (x, y)).toArray 66 (0, 0))) (hM : W.heap[M]? = some (.cells cM 66 (0, 0))) (hB : Below base w0 W) (hb0 : base ≤ w0.heap.size) (hMat : OMat W base u3 LL) (hLL : LL.length ≤ 1000000) (hf0 : A.eval (.tmp 3) = u3)
    (hQ : ∀ (f : Nat → Value) (w' : World), OMat w' base (f 20) (LL ++ endRows x y) → Below base w0 w' → w'.heap[M]? = some (.cells cM 66 (0, 0)) → Q .normal (puts29 A f) w') : (Code.region id ops true).wp Ybad.prog Q A W := by
  have h := ends_region (F29 A) (F29_put A) (F29_eval A hA) (fun f => (F29_other A f 15 (by omega) (by omega)).trans h15) (fun f => (F29_other A f 16 (by omega) (by omega)).trans h16) (fun f => (F29_other A f 17 (by omega) (by omega)).trans h17) hsz hlow hw hm o0 o1 o2 o3 o4 o5 o6 o7 o8 o9 o10 o11 o12 o13 o14 o15 o16 o17 o18 o19 o20 hN hM hB hb0 hMat hLL (fun i => A.eval (.tmp (slot29 i))) hf0 (fun f w' a b c => by rw [F29_puts A f]; exact hQ f w' a b c) (id := id)
  rw [F29_self] at h
  exact h

end Go.Proofs.YbulkcrxaDoor
