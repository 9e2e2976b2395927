import Derived.Test.YbulkcrxaDoorV
import Derived.Deep.MidRow
namespace Go.Proofs.YbulkcrxaDoor
open Go.RowKit

theorem setCells_alloc (w : World) (t : TypeId) : ∀ (vs : List Value) (o : Nat) (c : Array Value),
    (w.alloc (.cells c t)).setCells w.heap.size o vs = w.alloc (.cells ((List.range vs.length).foldl (fun c j => c.setIfInBounds (o + j) (vs.getD j undef)) c) t)
  | [], _, _ => rfl
  | v :: r, o, c => by
    rw [World.setCells, World.setCell_alloc_at _ _ _ _ _ rfl, setCells_alloc w t r (o + 1) _]
    congr 2
    rw [List.length_cons, List.range_succ_eq_map, List.foldl_cons, List.foldl_map]
    simp only [Nat.add_zero, List.getD_cons_zero, List.getD_cons_succ]
    congr 1
    funext c j
    rw [Nat.add_right_comm, Nat.add_assoc]

theorem foldl_set (vs : List Value) : ∀ (n : Nat) (c : Array Value), n ≤ vs.length → c.size = vs.length →
    ((List.range n).foldl (fun c j => c.setIfInBounds (0 + j) (vs.getD j undef)) c).toList = vs.take n ++ c.toList.drop n
  | 0, c, _, _ => by simp
  | n + 1, c, hn, hc => by
    have ih := foldl_set vs n c (by omega) hc
    rw [List.range_succ, List.foldl_append, List.foldl_cons, List.foldl_nil, Array.toList_setIfInBounds, ih, Nat.zero_add]
    rw [List.set_append, if_neg (by simp; omega)]
    rw [List.take_succ_eq_append_getElem (by omega), List.append_assoc, List.length_take, Nat.min_eq_left (by omega), Nat.sub_self]
    rw [List.drop_eq_getElem_cons (l := c.toList) (i := n) (by simp; omega)]
    simp [List.getD_eq_getElem?_getD, List.getElem?_eq_getElem (show n < vs.length by omega)]

theorem setCells_alloc_whole (w : World) (t : TypeId) (vs : List Value) (c : Array Value) (hc : c.size = vs.length) : (w.alloc (.cells c t)).setCells w.heap.size 0 vs = w.alloc (.cells vs.toArray t) := by
  rw [setCells_alloc]
  congr 2
  apply Array.ext'
  have := foldl_set vs vs.length c (Nat.le_refl _) hc
  rw [this, List.take_length, List.drop_eq_nil_of_le (by simp; omega), List.append_nil]

/-- 'x := xs[i]' where x's address is taken: a load of a whole row, a new variable, the row stored. -/
theorem wpList_copy {P : Program} {ops : Array Oper} {rest : List Oper} {o1 o2 o3 : Oper} {a : Act} {w : World} {Q : Exit → Act → World → Prop} (ty : TypeId) (x : Operand) (d1 d2 : Tmp)
    (h1 : o1.op = .load ty x) (g1 : o1.guard = none) (e1 : o1.dst = some d1) (h2 : o2.op = .alloc ty) (g2 : o2.guard = none) (e2 : o2.dst = some d2) (h3 : o3.op = .store ty (.tmp d2) (.tmp d1)) (g3 : o3.guard = none) (e3 : o3.dst = none)
    (b o : Nat) (hx : a.eval x = .pointer (some ⟨b, o, none⟩)) (cs : List Value) (d : TypeDesc) (hc : w.rangeAt b o cs)
    (hu : P.underlying ty = some d) (hd : d.isRow = true) (zero : Array Value) (hi : (P.info? ty).map (fun i => (i.zero, i.size)) = some (some (.agg zero), cs.length)) (hzl : zero.size = cs.length) (hone : ∀ v ∈ cs, v.oneCell' = true)
    (hd1 : d1 < a.tmps.size) (hd2 : d2 < a.tmps.size) (hne : d1 ≠ d2)
    (h : wpList P ops Q rest ((a.put (some d1) (.agg cs.toArray)).put (some d2) (.pointer (some ⟨w.heap.size, 0, none⟩))) (w.alloc (.cells cs.toArray ty))) :
    wpList P ops Q (o1 :: o2 :: o3 :: rest) a w := by
  obtain ⟨i, hq, hi2⟩ := Option.map_eq_some_iff.1 hi
  simp only [Prod.mk.injEq] at hi2
  have hsz : (P.info? ty).map (·.size) = some cs.length := by rw [hq]; simp [hi2.2]
  refine wpList_load_mid g1 ty x h1 b o hx cs d hc hu hd hsz ?_
  rw [e1]
  refine wpList_plain g2 fun K hK => ?_
  unfold Oper.wp execOp
  have hz : (zeroValue ty).run P w = .ok (.agg zero) w := by simp [zeroValue, typeInfo, hq, hi2.1]
  have hrun : (Instr.alloc ty true (.tuple #[])).run P w = .ok (.pointer (some ⟨w.heap.size, 0, none⟩)) (w.alloc (.cells zero ty)) := by
    simp [Instr.alloc, hz, newVar, Value.cells, go_sem]
  simp only [h2, hrun, Sem.run_bind, Sem.run_pure, Result.andThen_ok]
  show K (((a.put (some d1) (.agg cs.toArray))).put o2.dst _) _
  rw [e2]
  refine hK _ _ ?_
  have ev2 : ((a.put (some d1) (.agg cs.toArray)).put (some d2) (.pointer (some ⟨w.heap.size, 0, none⟩))).eval (.tmp d2) = .pointer (some ⟨w.heap.size, 0, none⟩) := by
    simp [Act.eval, Act.put, hd2]
  have ev1 : ((a.put (some d1) (.agg cs.toArray)).put (some d2) (.pointer (some ⟨w.heap.size, 0, none⟩))).eval (.tmp d1) = .agg cs.toArray := by
    simp [Act.eval, Act.put, hd1, Ne.symm hne]
  refine wpList_store_mid g3 ty (.tmp d2) (.tmp d1) h3 w.heap.size 0 cs.toArray ev2 ev1 (fun j hj => ⟨?_, ?_⟩) (by simpa using hsz) (all_oneCell_toArray hone) ?_
  · rw [Nat.zero_add, World.cell?_alloc_new, Array.getElem?_eq_getElem (by simp at hj; omega)]; rfl
  · exact World.frozen?_alloc_new _ _ _ _
  · rw [e3, setCells_alloc_whole w ty _ zero (by simpa using hzl)]
    exact h

/-- The walk stops ahead of this load. -/
theorem stop_load {P : Program} {ops : Array Oper} {rest : List Oper} {o : Oper} {a : Act} {w : World} {Q : Exit → Act → World → Prop} (ty : TypeId) (x : Operand) (_ : o.op = .load ty x) (h : Hid (wpList P ops Q (o :: rest) a w)) : wpList P ops Q (o :: rest) a w := h

end Go.Proofs.YbulkcrxaDoor
