import Derived.Test.YbulkcrxaDoorC
import Derived.Deep.AppendLies
namespace Go.Proofs.YbulkcrxaDoor
open Go.RowKit
attribute [local go_sem ↓] Go.wp_at_zero Go.wp_at_succ

/-- 'omat_append', as one step of a region that draws its order. -/
theorem step_omat {W : World} {base : Nat} {ops : Array Oper} {o : Oper} {a : Act} {K : Act → World → Prop} {Q : Exit → Act → World → Prop} {E : Prop} (hgd : o.guard = none) (s x : Operand) (ho : o.op = .call { callee := .builtin .append, args := #[s, x], argTypes := #[35, 35] })
    (V : Value) (LL ls : List (List ByteArray)) (cs : Array Value) (nb m c : Nat) (hs : a.eval s = V) (hM : OMat W base V LL) (hx : a.eval x = .slice (some ⟨nb, 0, none⟩) m c) (hb : W.heap[nb]? = some (.cells cs 22 (0, 0))) (hm : ls.length = m) (hcm : cs.size = m)
    (hv : ∀ i, i < ls.length → ∃ v, cs.toList[i]? = some v ∧ ORow W base v (ls.getD i [])) (hLL : LL.length ≤ 1000000) (hls : m ≤ 1000) (hbase : base ≤ W.heap.size)
    (h : ∀ V' w1, OMat w1 base V' (LL ++ ls) → Below base W w1 → W.grownBy w1 V.ownBlock → K (a.put o.dst V') w1) :
    if Region.wanted o (yielded ops a.tmps) = true then Oper.wp Ybad.prog o a W K Q else E := by
  have hw : Region.wanted o (yielded ops a.tmps) = true := by simp [Region.wanted, hgd]
  rw [if_pos hw]
  obtain ⟨i22, hi22, hz220, hz221, hz222⟩ := info_parts info22
  obtain ⟨vs, hv1, hv2⟩ := hM
  have hone : ∀ u ∈ cs.toList, u.oneCell' = true := by
    intro u hu
    obtain ⟨i, hi, rfl⟩ := List.mem_iff_getElem.1 hu
    obtain ⟨v, e, hr⟩ := hv i (by simp at hi; omega)
    rw [List.getElem?_eq_getElem hi] at e
    obtain rfl := Option.some.inj e
    rcases hr.2 with ⟨e, _⟩ | ⟨_, _, _, e, _⟩ <;> rw [e] <;> rfl
  refine wp_append_own W s x 35 ho base 22 i22 (.slice none 0 0) 1 24 Ybad.underlying35 hi22 hz220 hz221 hz222 rfl (by decide) V LL.length vs hs hv1 ⟨nb, 0, none⟩ m c cs.toList hx (by simp [hcm]) (fun j u hu => by rw [cell_at hb]; simpa using hu) hone (by unfold maxLen; omega) (by omega) hbase ?_
  intro V' w1 ho hg _
  exact h V' w1 (OMat.pushL hv1 hv2 hv (by rw [hm]; exact ho) hg) ((Below.refl base W).grown hg hbase (fun k hk => (hv1.lt k hk).1)) hg

theorem cell_keep {w : World} {a : Addr} {o : Obj} {v : Value} (h : w.cell? a = some v) : (w.alloc o).cell? a = some v := (World.cell?_alloc_lt _ _ _ (World.block_lt_of_cell? w a h)).trans h
theorem OMat.lt {w : World} {base : Nat} {V : Value} {LL : List (List ByteArray)} (h : OMat w base V LL) {k : Nat} (hk : V.ownBlock = some k) : k < w.heap.size := by
  obtain ⟨vs, h1, _⟩ := h
  exact (h1.lt k hk).2

theorem one_row {W : World} {base : Nat} {v : Value} {p : ByteArray × ByteArray} (h : ORow W base v ((linkRows p).getD 0 [])) : ∀ i, i < (linkRows p).length → ∃ u, (#[v] : Array Value).toList[i]? = some u ∧ ORow W base u ((linkRows p).getD i [])
  | 0, _ => ⟨_, rfl, h⟩
  | i + 1, hi => by simp [linkRows] at hi

theorem below_drew2 (w : World) (a b : Obj) : Below w.heap.size w ((w.alloc a).alloc b).drew := (((Below.refl w.heap.size w).alloc (Nat.le_refl _) a).alloc (by simp) b).drew
/-- This step is this append. -/
theorem step_at {ops : Array Oper} {o : Oper} {a : Act} {W : World} {K : Act → World → Prop} {Q : Exit → Act → World → Prop} {E : Prop} (s x : Operand) (_ : o.op = .call { callee := .builtin .append, args := #[s, x], argTypes := #[35, 35] })
    (h : if Region.wanted o (yielded ops a.tmps) = true then Oper.wp Ybad.prog o a W K Q else E) : if Region.wanted o (yielded ops a.tmps) = true then Oper.wp Ybad.prog o a W K Q else E := h

theorem cell_of_block {w : World} {b : Nat} {cs : List Value} {t : TypeId} (h : w.heap[b]? = some (.cells cs.toArray t (0, 0))) (j : Nat) : w.cell? ⟨b, j, none⟩ = cs[j]? := by
  have := cell_at (j := j) h
  by_cases hj : j = 0
  · subst hj; simpa [Addr.add] using this
  · simpa [Addr.add, hj] using this
theorem range_of_block {w : World} {b : Nat} {t : TypeId} (pre mid post : List Value) (h : w.heap[b]? = some (.cells (pre ++ mid ++ post).toArray t (0, 0))) : w.rangeAt b pre.length mid := by
  intro j v hv
  have hj := (List.getElem?_eq_some_iff.1 hv).1
  rw [cell_of_block h, List.append_assoc, List.getElem?_append_right (by omega), show pre.length + j - pre.length = j by omega, List.getElem?_append_left hj, hv]

/-- An array of two, built of two rows. -/
theorem wpList_two {P : Program} {ops : Array Oper} {rest : List Oper} {o : Oper} {a : Act} {w : World} {Q : Exit → Act → World → Prop} (t : TypeId) (x y : Operand) (hg : o.guard = none) (ho : o.op = .build t #[(0, x), (1, y)]) (v1 v2 v : Value)
    (hx : a.eval x = v1) (hy : a.eval y = v2) (hr : ∀ w : World, (Instr.build t #[(0, v1), (1, v2)]).run P w = .ok v w) (h : wpList P ops Q rest (a.put o.dst v) w) : wpList P ops Q (o :: rest) a w := by
  refine wpList_plain hg fun K hK => ?_
  unfold Oper.wp execOp
  simp only [ho, List.map_toArray, List.map_cons, List.map_nil, hx, hy, hr w, Sem.run_bind, Sem.run_pure, Result.andThen_ok]
  exact hK _ _ h
theorem wpList_two_slice {P : Program} {ops : Array Oper} {rest : List Oper} {o : Oper} {a : Act} {w : World} {Q : Exit → Act → World → Prop} (t : TypeId) (x y : Operand) (hg : o.guard = none) (ho : o.op = .buildSlice t 2 #[(0, x), (1, y)]) (v1 v2 v : Value) (w' : World)
    (hx : a.eval x = v1) (hy : a.eval y = v2) (hr : (Instr.buildSlice t 2 #[(0, v1), (1, v2)]).run P w = .ok v w') (h : wpList P ops Q rest (a.put o.dst v) w') : wpList P ops Q (o :: rest) a w := by
  refine wpList_plain hg fun K hK => ?_
  unfold Oper.wp execOp
  simp only [ho, List.map_toArray, List.map_cons, List.map_nil, hx, hy, hr, Sem.run_bind, Sem.run_pure, Result.andThen_ok]
  exact hK _ _ h
theorem run_build66 (x y : ByteArray) (w : World) : (Instr.build 66 #[(0, .agg (endCells x).toArray), (1, .agg (endCells y).toArray)]).run Ybad.prog w = .ok (.agg (linkCells (x, y)).toArray) w := by kernel_rfl
theorem run_build67 (x y : ByteArray) (w : World) : (Instr.buildSlice 67 2 #[(0, .agg (linkCells (x, y)).toArray), (1, .agg (linkCells (y, x)).toArray)]).run Ybad.prog w = .ok (.slice (some ⟨w.heap.size, 0, none⟩) 2 2) (w.alloc (.cells (linkCells (x, y) ++ linkCells (y, x)).toArray 66)) := by kernel_rfl
theorem info56s : (Ybad.prog.info? 56).map (·.size) = some 9 := by kernel_rfl
theorem info66z : (Ybad.prog.info? 66).map (fun i => (i.zero, i.size)) = some (some (.agg (linkCells (⟨#[]⟩, ⟨#[]⟩)).toArray), 18) := by kernel_rfl

def zero58 : List Value := linkCells (⟨#[]⟩, ⟨#[]⟩)
theorem info58z : (Ybad.prog.info? 58).map (fun i => (i.zero, i.size)) = some (some (.agg zero58.toArray), 18) := by kernel_rfl
theorem one18 (a b : ByteArray) : ∀ v ∈ linkCells (a, b), v.oneCell' = true := by
  intro v hv
  simp only [linkCells, endCells, List.cons_append, List.nil_append, List.mem_cons, List.not_mem_nil, or_false] at hv
  rcases hv with h | h | h | h | h | h | h | h | h | h | h | h | h | h | h | h | h | h <;> rw [h] <;> rfl


end Go.Proofs.YbulkcrxaDoor
