import Derived.Test.YbulkcrxaDoorRows
import Derived.WalkKit
import Derived.WalkLawsBesides
import Derived.Deep.QuietTactic
import Derived.BigQuiet
import Derived.Deep.RegionWith
import Derived.Deep.DeepCutAuto
namespace Go.Proofs.YbulkcrxaDoor
open Go.RowKit

/-! Slices of strings, and slices of such, as memory holds them: for reading. -/
def Strs (w : World) (v : Value) (l : List ByteArray) : Prop :=
  ∃ a cap, v = .slice a l.length cap ∧ (l = [] ∨ ∃ b off, a = some ⟨b, off, none⟩ ∧ ∀ i, i < l.length → w.cell? ⟨b, off + i, none⟩ = some (.string (l.getD i ByteArray.empty)))
def Mat (w : World) (V : Value) (LL : List (List ByteArray)) : Prop :=
  ∃ a cap, V = .slice a LL.length cap ∧ (LL = [] ∨ ∃ b off, a = some ⟨b, off, none⟩ ∧ ∀ i, i < LL.length → ∃ v, w.cell? ⟨b, off + i, none⟩ = some v ∧ Strs w v (LL.getD i []))

/-! The same, in blocks of the call's own: for building. -/
def ORow (w : World) (base : Nat) (v : Value) (l : List ByteArray) : Prop := w.ownsRow base 9 1 v l.length (l.map Value.string)
def OMat (w : World) (base : Nat) (V : Value) (LL : List (List ByteArray)) : Prop :=
  ∃ vs, w.ownsRow base 22 1 V LL.length vs ∧ ∀ i, i < LL.length → ∃ v, vs[i]? = some v ∧ ORow w base v (LL.getD i [])

theorem owns_below {w w' : World} {base e size n : Nat} {v : Value} {xs : List Value} (h : w.ownsRow base e size v n xs) (hb : Below w.heap.size w w') : w'.ownsRow base e size v n xs :=
  h.kept (row := none) ⟨hb.os, hb.tape, hb.output, hb.size, fun k hk _ => hb.block k hk⟩ (by cases v.ownBlock <;> simp)

theorem ORow.below {w w' : World} {base : Nat} {v : Value} {l : List ByteArray} (h : ORow w base v l) (hb : Below w.heap.size w w') : ORow w' base v l := owns_below h hb
theorem OMat.below {w w' : World} {base : Nat} {V : Value} {LL : List (List ByteArray)} (h : OMat w base V LL) (hb : Below w.heap.size w w') : OMat w' base V LL := by
  obtain ⟨vs, h1, h2⟩ := h
  exact ⟨vs, owns_below h1 hb, fun i hi => by obtain ⟨v, a, b⟩ := h2 i hi; exact ⟨v, a, b.below hb⟩⟩

theorem OMat.nil (w : World) (base : Nat) : OMat w base (.slice none 0 0) [] := ⟨[], World.ownsRow_nil _ _ _ _, fun i hi => by simp at hi⟩

/-- Two owned rows of elements of different types lie in different blocks. -/
theorem owns_apart {w : World} {base base' e e' size size' n n' : Nat} {v v' : Value} {xs xs' : List Value} (h : w.ownsRow base e size v n xs) (h' : w.ownsRow base' e' size' v' n' xs') (hne : e ≠ e') : v.ownBlock = none ∨ v.ownBlock ≠ v'.ownBlock := by
  rcases h.2 with ⟨rfl, _⟩ | ⟨g, cap, cur, rfl, _, hg, _⟩
  · exact .inl rfl
  · rcases h'.2 with ⟨rfl, _⟩ | ⟨g', cap', cur', rfl, _, hg', _⟩
    · exact .inr (by simp [Value.ownBlock])
    · refine .inr ?_
      intro e1
      simp only [Value.ownBlock, Option.some.injEq] at e1
      subst e1
      rw [hg] at hg'
      simp only [Option.some.injEq, Obj.cells.injEq] at hg'
      exact hne hg'.2.1

theorem getD_pushL (LL ls : List (List ByteArray)) (i : Nat) : (LL ++ ls).getD i [] = if i < LL.length then LL.getD i [] else ls.getD (i - LL.length) [] := by
  simp only [List.getD_eq_getElem?_getD, List.getElem?_append]
  split <;> rfl

theorem OMat.pushL {w w1 : World} {base : Nat} {V V' : Value} {LL ls : List (List ByteArray)} {vs news : List Value} (h1 : w.ownsRow base 22 1 V LL.length vs) (h2 : ∀ i, i < LL.length → ∃ v, vs[i]? = some v ∧ ORow w base v (LL.getD i []))
    (hv : ∀ i, i < ls.length → ∃ v, news[i]? = some v ∧ ORow w base v (ls.getD i [])) (h : w1.ownsRow base 22 1 V' (LL.length + ls.length) (vs ++ news)) (hg : w.grownBy w1 V.ownBlock) : OMat w1 base V' (LL ++ ls) := by
  have hl : vs.length = LL.length := by simpa using h1.1
  have keep : ∀ {u : Value} {m : List ByteArray}, ORow w base u m → ORow w1 base u m := fun hu => World.ownsRow.kept hu hg (owns_apart hu h1 (by decide))
  refine ⟨vs ++ news, by rw [List.length_append]; exact h, fun i hi => ?_⟩
  rw [getD_pushL]
  simp only [List.length_append] at hi
  by_cases c : i < LL.length
  · obtain ⟨u, hu, hr⟩ := h2 i c
    rw [if_pos c]
    exact ⟨u, by rw [List.getElem?_append_left (by omega)]; exact hu, keep hr⟩
  · obtain ⟨u, hu, hr⟩ := hv (i - LL.length) (by omega)
    rw [if_neg c]
    exact ⟨u, by rw [List.getElem?_append_right (by omega), hl]; exact hu, keep hr⟩

theorem heap_at (w : World) (o : Obj) (k : Nat) (h : k = w.heap.size) : (w.alloc o).heap[k]? = some o := by subst h; exact heap_alloc_new w o
theorem heap_past (w : World) (o : Obj) (k : Nat) (h : k < w.heap.size) : (w.alloc o).heap[k]? = w.heap[k]? := Below.heap_alloc w o k h

theorem heap1a (w : World) (a : Obj) : (w.alloc a).heap[w.heap.size]? = some a := heap_at _ _ _ rfl
theorem heap2a (w : World) (a b : Obj) : ((w.alloc a).alloc b).heap[w.heap.size]? = some a := (heap_past _ _ _ (by simp)).trans (heap1a _ _)
theorem heap2b (w : World) (a b : Obj) : ((w.alloc a).alloc b).heap[w.heap.size + 1]? = some b := heap_at _ _ _ (by simp)
theorem heap3a (w : World) (a b c : Obj) : (((w.alloc a).alloc b).alloc c).heap[w.heap.size]? = some a := (heap_past _ _ _ (by simp; omega)).trans (heap2a _ _ _)
theorem heap3b (w : World) (a b c : Obj) : (((w.alloc a).alloc b).alloc c).heap[w.heap.size + 1]? = some b := (heap_past _ _ _ (by simp)).trans (heap2b _ _ _)
theorem heap3c (w : World) (a b c : Obj) : (((w.alloc a).alloc b).alloc c).heap[w.heap.size + 1 + 1]? = some c := heap_at _ _ _ (by simp)
theorem heap4a (w : World) (a b c d : Obj) : ((((w.alloc a).alloc b).alloc c).alloc d).heap[w.heap.size]? = some a := (heap_past _ _ _ (by simp; omega)).trans (heap3a _ _ _ _)
theorem heap4b (w : World) (a b c d : Obj) : ((((w.alloc a).alloc b).alloc c).alloc d).heap[w.heap.size + 1]? = some b := (heap_past _ _ _ (by simp)).trans (heap3b _ _ _ _)
theorem heap4c (w : World) (a b c d : Obj) : ((((w.alloc a).alloc b).alloc c).alloc d).heap[w.heap.size + 1 + 1]? = some c := (heap_past _ _ _ (by simp)).trans (heap3c _ _ _ _)
theorem heap4d (w : World) (a b c d : Obj) : ((((w.alloc a).alloc b).alloc c).alloc d).heap[w.heap.size + 1 + 1 + 1]? = some d := heap_at _ _ _ (by simp)

theorem orow_at {W : World} {base b n : Nat} {cs : Array Value} (l : List ByteArray) (hb : W.heap[b]? = some (.cells cs 9 (0, 0))) (hcs : cs.toList = l.map Value.string) (hn : l.length = n) (hbase : base ≤ b) (hl : n ≤ 1000) : ORow W base (.slice (some ⟨b, 0, none⟩) n n) l := by
  subst hn
  refine ⟨by simp, .inr ⟨b, l.length, cs, rfl, hbase, hb, Nat.le_refl _, by unfold maxLen; omega, by rw [← Array.length_toList, hcs]; simp, ?_⟩⟩
  rw [Nat.mul_one, hcs]
  exact List.take_of_length_le (by simp)

theorem cell_at {W : World} {b j : Nat} {cs : Array Value} {e : TypeId} (hb : W.heap[b]? = some (.cells cs e (0, 0))) : W.cell? ((⟨b, 0, none⟩ : Addr).add j) = cs[j]? := by
  have e1 : (⟨b, 0, none⟩ : Addr).add j = ⟨b, j, none⟩ := by unfold Addr.add; split <;> simp_all
  rw [e1, World.cell?, hb]; rfl

theorem info9 : (Ybad.prog.info? 9).map (fun i => (i.zero, i.size, i.bytes)) = some (some (.string ⟨#[]⟩), 1, 16) := by kernel_rfl
theorem info22 : (Ybad.prog.info? 22).map (fun i => (i.zero, i.size, i.bytes)) = some (some (.slice none 0 0), 1, 24) := by kernel_rfl

theorem strs_one (l : List ByteArray) : ∀ u ∈ l.map Value.string, u.oneCell' = true := by
  intro u hu
  obtain ⟨s, _, rfl⟩ := List.mem_map.1 hu
  rfl

/-- 'cmds = append(cmds, rows...)', the rows' slices laid in a block of their own. -/
theorem omat_append {W : World} {base : Nat} {ops : Array Oper} {rest : List Oper} {o : Oper} {a : Act} {Q : Exit → Act → World → Prop} (hgd : o.guard = none) (s x : Operand) (ho : o.op = .call { callee := .builtin .append, args := #[s, x], argTypes := #[35, 35] })
    {V : Value} {LL ls : List (List ByteArray)} {cs : Array Value} {nb m c : Nat} (hs : a.eval s = V) (hM : OMat W base V LL) (hx : a.eval x = .slice (some ⟨nb, 0, none⟩) m c) (hb : W.heap[nb]? = some (.cells cs 22 (0, 0))) (hm : ls.length = m) (hcm : cs.size = m)
    (hv : ∀ i, i < ls.length → ∃ v, cs.toList[i]? = some v ∧ ORow W base v (ls.getD i [])) (hLL : LL.length ≤ 1000000) (hls : m ≤ 1000) (hbase : base ≤ W.heap.size)
    (h : ∀ V' w1, OMat w1 base V' (LL ++ ls) → Below base W w1 → W.grownBy w1 V.ownBlock → wpList Ybad.prog ops Q rest (a.put o.dst V') w1) : wpList Ybad.prog ops Q (o :: rest) a W := by
  obtain ⟨i22, hi22, hz220, hz221, hz222⟩ := info_parts info22
  obtain ⟨vs, hv1, hv2⟩ := hM
  have hone : ∀ u ∈ cs.toList, u.oneCell' = true := by
    intro u hu
    obtain ⟨i, hi, rfl⟩ := List.mem_iff_getElem.1 hu
    obtain ⟨v, e, hr⟩ := hv i (by simp at hi; omega)
    rw [List.getElem?_eq_getElem hi] at e
    obtain rfl := Option.some.inj e
    rcases hr.2 with ⟨e, _⟩ | ⟨_, _, _, e, _⟩ <;> rw [e] <;> rfl
  refine wpList_append_own W hgd s x 35 ho base 22 i22 (.slice none 0 0) 1 24 Ybad.underlying35 hi22 hz220 hz221 hz222 rfl (by decide) V LL.length vs hs hv1 ⟨nb, 0, none⟩ m c cs.toList hx (by simp [hcm]) (fun j u hu => by rw [cell_at hb]; simpa using hu) hone (by unfold maxLen; omega) (by omega) hbase ?_
  intro V' w1 ho hg _
  refine h V' w1 (OMat.pushL hv1 hv2 hv (by rw [hm]; exact ho) hg) ?_ hg
  exact (Below.refl base W).grown hg hbase (fun k hk => (hv1.lt k hk).1)

/-- 'row = append(row, strings...)'. -/
theorem orow_append {W : World} {base : Nat} {ops : Array Oper} {rest : List Oper} {o : Oper} {a : Act} {Q : Exit → Act → World → Prop} (hgd : o.guard = none) (s x : Operand) (ho : o.op = .call { callee := .builtin .append, args := #[s, x], argTypes := #[22, 22] })
    {v : Value} {l ls : List ByteArray} {cs : Array Value} {nb m c : Nat} (hs : a.eval s = v) (hM : ORow W base v l) (hx : a.eval x = .slice (some ⟨nb, 0, none⟩) m c) (hb : W.heap[nb]? = some (.cells cs 9 (0, 0))) (hm : ls.length = m) (hcs : cs.toList = ls.map Value.string)
    (hLL : l.length ≤ 1000000) (hls : m ≤ 1000) (hbase : base ≤ W.heap.size)
    (h : ∀ v' w1, ORow w1 base v' (l ++ ls) → Below base W w1 → W.grownBy w1 v.ownBlock → wpList Ybad.prog ops Q rest (a.put o.dst v') w1) : wpList Ybad.prog ops Q (o :: rest) a W := by
  obtain ⟨i9, hi9, hz90, hz91, hz92⟩ := info_parts info9
  refine wpList_append_own W hgd s x 22 ho base 9 i9 (.string ⟨#[]⟩) 1 16 Ybad.underlying22 hi9 hz90 hz91 hz92 rfl (by decide) v l.length (l.map Value.string) hs hM ⟨nb, 0, none⟩ m c (ls.map Value.string) hx (by simp [hm]) (fun j u hu => by rw [cell_at hb, ← Array.getElem?_toList, hcs]; exact hu) (strs_one ls) (by unfold maxLen; omega) (by omega) hbase ?_
  intro v' w1 ho hg _
  refine h v' w1 ?_ ((Below.refl base W).grown hg hbase (fun k hk => (hM.lt k hk).1)) hg
  unfold ORow
  rw [List.length_append, List.map_append, hm]
  exact ho

theorem below_alloc (w : World) (o : Obj) : Below w.heap.size w (w.alloc o) := (Below.refl _ _).alloc (Nat.le_refl _) _

theorem ORow.strs {w : World} {base : Nat} {v : Value} {l : List ByteArray} (h : ORow w base v l) : Strs w v l := by
  rcases h.2 with ⟨rfl, hn⟩ | ⟨g, cap, cur, rfl, _, _⟩
  · exact ⟨none, 0, by rw [hn], .inl (List.eq_nil_of_length_eq_zero hn)⟩
  · refine ⟨some ⟨g, 0, none⟩, cap, rfl, .inr ⟨g, 0, rfl, fun i hi => ?_⟩⟩
    rw [Nat.zero_add, World.ownsRow.cellAt h i (by omega), List.getElem?_map, List.getElem?_eq_getElem hi, List.getD_eq_getElem?_getD, List.getElem?_eq_getElem hi]
    rfl

theorem OMat.mat {w : World} {base : Nat} {V : Value} {LL : List (List ByteArray)} (h : OMat w base V LL) : Mat w V LL := by
  obtain ⟨vs, h1, h2⟩ := h
  have h1' := h1
  rcases h1.2 with ⟨rfl, hn⟩ | ⟨g, cap, cur, rfl, _, _⟩
  · exact ⟨none, 0, by rw [hn], .inl (List.eq_nil_of_length_eq_zero hn)⟩
  · refine ⟨some ⟨g, 0, none⟩, cap, rfl, .inr ⟨g, 0, rfl, fun i hi => ?_⟩⟩
    obtain ⟨v, hv, hr⟩ := h2 i hi
    exact ⟨v, by rw [Nat.zero_add, World.ownsRow.cellAt h1' i (by omega)]; exact hv, hr.strs⟩

theorem Strs.cells {w w' : World} {v : Value} {l : List ByteArray} (h : Strs w v l) (hc : ∀ a : Addr, (w.cell? a).isSome = true → w'.cell? a = w.cell? a) : Strs w' v l := by
  obtain ⟨a, cap, rfl, h⟩ := h
  refine ⟨a, cap, rfl, ?_⟩
  rcases h with h | ⟨b, off, rfl, h⟩
  · exact .inl h
  · exact .inr ⟨b, off, rfl, fun i hi => by rw [hc _ (by rw [h i hi]; rfl)]; exact h i hi⟩

theorem Strs.below {w w' : World} {v : Value} {l : List ByteArray} (h : Strs w v l) (hb : Below w.heap.size w w') : Strs w' v l :=
  h.cells fun a ha => hb.cell (by obtain ⟨x, hx⟩ := Option.isSome_iff_exists.1 ha; exact World.block_lt_of_cell? _ _ hx)

/-! slices.Equal on two slices that hold the same strings; the law's own comparison. -/
set_option maxHeartbeats 400000 in
theorem equal_same (v1 v2 : Value) (l : List ByteArray) (w : World) (h1 : Strs w v1 l) (h2 : Strs w v2 l) (hl : l.length ≤ 1000000) :
    Calls Ybad.prog 8 #[v1, v2] w fun e w' => e = .returned (.bool true) ∧ ∃ n, w' = w.drewN n := by
  obtain ⟨a1, c1, rfl, h1⟩ := h1
  obtain ⟨a2, c2, rfl, h2⟩ := h2
  go_enter Ybad.func8, Ybad.ntmps8
  go_wp2_with fail
  go_loopw [5, 13] (fun _ i wr => ∃ (k n : Nat), k ≤ l.length ∧ i = .int .i64 k ∧ wr = w.drewN n) (fun _ i _ => l.length - (intOf i).toNat)
  case atStart => exact ⟨0, 0, by omega, rfl, rfl⟩
  case round =>
    obtain ⟨k, n, hk, rfl, rfl⟩ := hrel
    by_cases hlt : k < l.length
    · rcases h1 with h1 | ⟨b1, o1, rfl, h1⟩
      · simp [h1] at hlt
      rcases h2 with h2 | ⟨b2, o2, rfl, h2⟩
      · simp [h2] at hlt
      obtain ⟨s, hs⟩ : ∃ s, s = l.getD k ByteArray.empty := ⟨_, rfl⟩
      have g1 := h1 k hlt
      have g2 := h2 k hlt
      rw [← hs] at g1 g2
      clear hs
      have hlt' : (k : Int) < (l.length : Int) := by omega
      go_wp2
      go_quiet (fail)
      go_wp2
      exact ⟨⟨k + 1, n + nq, by omega, by go_num, rfl⟩, by simp [intOf]; omega⟩
    · go_wp2
      go_ret
      exact ⟨rfl, n, rfl⟩

theorem slice_ty (v : Value) (l : List ByteArray) (w : World) (h : Strs w v l) : ∃ a n c, v = .slice a n c := by
  obtain ⟨a, c, rfl, _⟩ := h
  exact ⟨_, _, _, rfl⟩

set_option maxHeartbeats 400000 in
theorem zzeq_same (V1 V2 : Value) (LL : List (List ByteArray)) (w : World) (h1 : Mat w V1 LL) (h2 : Mat w V2 LL) (hl : LL.length ≤ 1000000) (hll : ∀ i, (LL.getD i []).length ≤ 1000000) :
    Calls Ybad.prog 7 #[V1, V2] w fun e w' => e = .returned (.bool true) ∧ ∃ n, w' = w.drewN n := by
  obtain ⟨a1, c1, rfl, h1⟩ := h1
  obtain ⟨a2, c2, rfl, h2⟩ := h2
  go_enter Ybad.func7, Ybad.ntmps7
  go_wp2_with fail
  go_loopw [5, 13] (fun _ i wr => ∃ (k n : Nat), k ≤ LL.length ∧ i = .int .i64 k ∧ wr = w.drewN n) (fun _ i _ => LL.length - (intOf i).toNat)
  case atStart => exact ⟨0, 0, by omega, rfl, rfl⟩
  case round =>
    obtain ⟨k, n, hk, rfl, hwr⟩ := hrel
    by_cases hlt : k < LL.length
    · rcases h1 with h1 | ⟨b1, o1, rfl, h1⟩
      · simp [h1] at hlt
      rcases h2 with h2 | ⟨b2, o2, rfl, h2⟩
      · simp [h2] at hlt
      obtain ⟨l, hl'⟩ : ∃ l, l = LL.getD k [] := ⟨_, rfl⟩
      obtain ⟨v1, g1, r1⟩ := h1 k hlt
      obtain ⟨v2, g2, r2⟩ := h2 k hlt
      have hlk := hll k
      rw [← hl'] at r1 r2 hlk
      clear hl'
      obtain ⟨x1, n1, y1, rfl⟩ := slice_ty _ _ _ r1
      obtain ⟨x2, n2, y2, rfl⟩ := slice_ty _ _ _ r2
      have hlt' : (k : Int) < (LL.length : Int) := by omega
      have q1 : Strs wr (.slice x1 n1 y1) l := by rw [hwr]; exact r1
      have q2 : Strs wr (.slice x2 n2 y2) l := by rw [hwr]; exact r2
      have e1 : wr.cell? ⟨b1, o1 + k, none⟩ = some (.slice x1 n1 y1) := by rw [hwr]; exact g1
      have e2 : wr.cell? ⟨b2, o2 + k, none⟩ = some (.slice x2 n2 y2) := by rw [hwr]; exact g2
      have HW : Hid (wr = w.drewN n) := hwr
      clear hwr r1 r2 g1 g2
      go_wp2
      go_quiet ((go_at_call 8; exact Calls.quiet_of (equal_same _ _ l _ (by exact q1) (by exact q2) hlk)))
      go_wp2
      exact ⟨⟨k + 1, n + nq, by omega, by go_num, by rw [HW.out, World.drewN_drewN]⟩, by simp [intOf]; omega⟩
    · have HW : Hid (wr = w.drewN n) := hwr
      clear hwr
      go_wp2
      go_ret
      exact ⟨rfl, n, HW.out⟩

set_option maxHeartbeats 400000 in
theorem clone_any (a : Option Addr) (l : List ByteArray) (cap : Nat) (w : World) (hn : a = none → l = [] ∧ cap = 0) (h : Strs w (.slice a l.length cap) l) (hl : l.length ≤ 300) :
    Calls Ybad.prog 5 #[.slice a l.length cap] w fun e w' => ∃ v, e = .returned v ∧ ORow w' w.heap.size v l ∧ Below w.heap.size w w' := by
  obtain ⟨i0, hi, hz0, hz1, hz2⟩ := info_parts info9
  have hq := fun wx => Lib.run_eql_slice_nil (P := Ybad.prog) wx
  cases a with
  | none =>
    obtain ⟨rfl, rfl⟩ := hn rfl
    go_enter Ybad.func5, Ybad.ntmps5
    go_wp2
    go_ret
    exact ⟨_, rfl, World.ownsRow_nil _ _ _ _, Below.refl _ _⟩
  | some x =>
    have hsrc : ∀ j u, (l.map Value.string)[j]? = some u → (w.alloc (.cells #[] 9)).cell? (x.add j) = some u := by
      intro j u hu
      obtain ⟨a', c', he, h'⟩ := h
      simp only [Value.slice.injEq, true_and] at he
      obtain ⟨rfl, rfl⟩ := he
      obtain ⟨hj, hu⟩ := List.getElem?_eq_some_iff.1 hu
      simp only [List.length_map] at hj
      rcases h' with rfl | ⟨b, off, hb, hc⟩
      · simp at hj
      · obtain rfl := Option.some.inj hb
        have e1 : (⟨b, off, none⟩ : Addr).add j = ⟨b, off + j, none⟩ := by unfold Addr.add; split <;> simp_all
        have e2 := hc j hj
        rw [e1, World.cell?_alloc_lt _ _ _ (World.block_lt_of_cell? _ _ e2), e2, ← hu]
        simp [List.getD_eq_getElem?_getD, List.getElem?_eq_getElem hj]
    clear h hn
    go_enter Ybad.func5, Ybad.ntmps5
    go_wp2_with (first
      | (at_builtin; refine Hid.out ?_)
      | go_in)
    unfold Hid
    refine wpList_append_own _ rfl (.tmp 5) (.tmp 6) 22 rfl w.heap.size 9 i0 (.string ⟨#[]⟩) 1 16 Ybad.underlying22 hi hz0 hz1 hz2 rfl (by decide) (.slice (some ⟨w.heap.size, 0, none⟩) 0 0) 0 [] rfl (World.ownsRow_made w #[] 0 (Nat.le_refl _) (by decide) rfl) x l.length cap (l.map Value.string) rfl (by simp) hsrc (strs_one l) (by unfold maxLen; omega) (by omega) (by simp) ?_
    intro v' w' ho hg _
    simp only [Nat.zero_add, List.nil_append] at ho
    have hb : Below w.heap.size w w' := ((Below.refl _ _).alloc (Nat.le_refl _) _).grown hg (by simp) (by simp [Value.ownBlock])
    clear hg hsrc
    go_wp2
    go_ret
    exact ⟨_, rfl, ho, hb⟩

end Go.Proofs.YbulkcrxaDoor
