import Derived.Test.YbulkcrxaDoorY
import Derived.Test.YbulkcrxaDoorRows
import Derived.Test.YbulkcrxaDoorChecked
import Derived.ProofKit
import Derived.LaidLaws
import Derived.LaidHandle
import Derived.OpenShut
import Derived.Deep.Slices
import Derived.Deep.SlicePairs
import Derived.Deep.Strs
import Derived.SizedLaws
import Derived.MakeChecks
import Derived.Stop.LaidErr
namespace Go.Proofs.YbulkcrxaDoor
open Go.ChangeShapes Go.WideShapes Go.ChangeAt Go.RowKit

theorem cellsOne9 : Ybad.prog.cellsOf 9 = 1 := by kernel_rfl
theorem cellsOne5 : Ybad.prog.cellsOf 5 = 1 := by kernel_rfl
theorem cells54 : Ybad.prog.cellsOf 54 = 2 := by kernel_rfl
theorem cells60 : Ybad.prog.cellsOf 60 = 2 := by kernel_rfl
theorem cells47 : Ybad.prog.cellsOf 47 = 1 := by kernel_rfl

theorem wAll_mem {H : Type} {P : Program} {e : TypeId} {d : DataW H} {n : Nat} : ∀ {l : List (DataW H)}, d ∈ l → n ∈ d.weights P e → n ∈ DataW.weightsAll P e l
  | x :: r, h, hn => by
    simp only [DataW.weightsAll, List.mem_append]
    rcases List.mem_cons.1 h with rfl | h
    · exact .inl hn
    · exact .inr (wAll_mem h hn)

/-- The global that holds no zone. -/
theorem of_laid {W : World} (h : laidMetH Ybad.prog Rows.lawS4680ALinksRoutesRow.laid W) : W.cell? ⟨2, 0, none⟩ = some (.pointer none) := by
  rw [MakeChecks.laidMetH_plain _ _ _ (by kernel_rfl)] at h
  have h' : laidMet Ybad.prog (_ :: _ :: [((Rows.lawS4680ALinksRoutesRow.laid.getD 2 default).1, .agg [.nil])]) W := h
  have h1 := h'.tail
  have h2 := h1.tail
  obtain ⟨ps, ⟨g, t, cs, f, p, q, hg, ht, hv, hd, _, _⟩, _, _⟩ := h2
  have hgl : Ybad.prog.globalNamed (Rows.lawS4680ALinksRoutesRow.laid.getD 2 default).1 = some 2 := by kernel_rfl
  have htl : (Ybad.prog.globals[2]?).map (·.type) = some 47 := by kernel_rfl
  obtain rfl := Option.some.inj (hgl.symm.trans hg)
  obtain rfl := Option.some.inj (htl.symm.trans ht)
  obtain ⟨y0, n, hx, hl, hy⟩ := ChangeShapes.trod_struct1 Ybad.underlying47 hd
  obtain ⟨c, hc⟩ : ∃ c, cs.toList = [c] := by
    rw [cells47] at hl
    match h : cs.toList, hl with
    | [c], _ => exact ⟨c, rfl⟩
  rw [hc] at hy
  obtain ⟨d0, p0⟩ := y0
  have hd0 : d0 = .nil := by
    have := congrArg Prod.fst hx
    simp at this
    exact this.symm
  subst hd0
  have e2 := World.var?_cell hg hv 0
  rcases DataW.trod_pointer (cs := [c]) Ybad.underlying45 hy with ⟨e, _⟩ | ⟨a, cs', y, n', _, _, e, _⟩
  · rw [e2, ← Array.getElem?_toList, hc, List.getElem?_cons_zero, List.cons.inj e |>.1]
  · cases congrArg Prod.fst e

theorem w_lit {H : Type} (t : TypeId) (z : ByteArray) : (DataW.lit (.string z.data.toList) : DataW H).weights Ybad.prog t = [z.size] := by
  rw [DataW.weights]
  exact congrArg (fun x => [x]) (Array.length_toList (xs := z.data))
theorem w_pair {H : Type} (t u : TypeId) (x y : DataW H) : DataW.weightsEach Ybad.prog [t, u] [x, y] = x.weights Ybad.prog t ++ y.weights Ybad.prog u := by
  rw [DataW.weightsEach, DataW.weightsEach, DataW.weightsEach]
  · simp
  · intro _ _ _ _ h; cases h
theorem w_54 {H : Type} (x y : DataW H) : (DataW.agg [x, y]).weights Ybad.prog 54 = x.weights Ybad.prog 9 ++ y.weights Ybad.prog 9 := by
  rw [DataW.weights, Ybad.underlying54]
  exact w_pair 9 9 x y
theorem w_60 {H : Type} (x y : DataW H) : (DataW.agg [x, y]).weights Ybad.prog 60 = x.weights Ybad.prog 9 ++ y.weights Ybad.prog 5 := by
  rw [DataW.weights, Ybad.underlying60]
  exact w_pair 9 5 x y

/-- The links that came in, opened. -/
theorem open_links {H : Type} {enc : TypeId × Value → H} {W : World} {a : Option Addr} {len cap : Nat} {d : DataW H} {p : List MemPlace} (h : DataW.Trod enc Ybad.prog W 0 (fun _ => true) true 40 (.slice a len cap) d p) :
    ∃ l : List (ByteArray × ByteArray), Pairs W (.slice a len cap) l ∧ l.length ≤ 9223372036854775807 ∧ (∀ i, i < l.length → (l.getD i default).1.size ∈ d.weights Ybad.prog 40 ∧ (l.getD i default).2.size ∈ d.weights Ybad.prog 40) := by
  obtain ⟨fuel, hf⟩ := h
  rcases Deep.open_slice_pairs Ybad.underlying40 Ybad.underlying54 cells54 rfl rfl cellsOne9 cellsOne9 hf with ⟨hcs, hx⟩ | ⟨x, len', cap', m, n, V0, V1, D0, D1, P0, P1, hcs, _, hl, hm, hz, hx, hcell⟩
  · simp [Value.cells] at hcs
    obtain ⟨rfl, rfl, rfl⟩ := hcs
    exact ⟨[], ⟨none, 0, rfl, .inl rfl⟩, by simp, fun i hi => by simp at hi⟩
  · simp [Value.cells] at hcs
    obtain ⟨rfl, rfl, rfl⟩ := hcs
    simp only [if_true] at hz
    unfold maxLen at hm
    have key : ∀ i, i < len → ∃ q : ByteArray × ByteArray, W.cell? (x.add (i * 2)) = some (.string q.1) ∧ W.cell? (x.add (i * 2 + 1)) = some (.string q.2) ∧ D0 i = .lit (.string q.1.data.toList) ∧ D1 i = .lit (.string q.2.data.toList) := by
      intro i hi
      obtain ⟨c0, c1, t0, t1⟩ := hcell i (by omega)
      obtain ⟨s1, e4, f4, _⟩ := DataW.trod_string Ybad.underlying9 t0
      obtain ⟨s2, e5, f5, _⟩ := DataW.trod_string Ybad.underlying9 t1
      simp only [List.cons.injEq, and_true] at e4 e5
      rw [e4] at c0
      rw [e5] at c1
      exact ⟨(s1, s2), c0, c1, congrArg Prod.fst f4, congrArg Prod.fst f5⟩
    obtain ⟨f, hf⟩ := Deep.choose_lt key
    have hget : ∀ i, i < len → ((List.range len).map f).getD i default = f i := fun i hi => by
      simp [List.getD_eq_getElem?_getD, hi]
    have hll : ((List.range len).map f).length = len := by simp
    refine ⟨(List.range len).map f, ⟨some x, cap, by rw [hll], ?_⟩, by omega, fun i hi => ?_⟩
    · by_cases h0 : len = 0
      · subst h0; exact .inl rfl
      · obtain ⟨b, off, spot⟩ := x
        have hspot : spot = none := by simpa [Addr.add] using World.cell?_spot (hf 0 (by omega)).1
        subst hspot
        refine .inr ⟨b, off, rfl, fun i hi => ?_⟩
        rw [hll] at hi
        rw [hget i hi]
        have := hf i hi
        simp only [Go.WideShapes.add_plain] at this
        exact ⟨this.1, by simpa only [Nat.add_assoc] using this.2.1⟩
    · rw [hll] at hi
      rw [hget i hi]
      have hx1 : d = _ := congrArg Prod.fst hx
      have hmem : (DataW.agg [D0 i, D1 i] : DataW H) ∈ (List.range len).map fun i => DataW.agg [D0 i, D1 i] := List.mem_map.2 ⟨i, List.mem_range.2 hi, rfl⟩
      have hw : ∀ k, k ∈ (DataW.agg [D0 i, D1 i] : DataW H).weights Ybad.prog 54 → k ∈ d.weights Ybad.prog 40 := fun k hk => by
        rw [hx1, DataW.weights, Ybad.underlying40]
        simp only [List.mem_cons, List.mem_append]
        exact .inr (.inl (wAll_mem hmem hk))
      have hq := hf i hi
      rw [hq.2.2.1, hq.2.2.2] at hw
      refine ⟨hw _ ?_, hw _ ?_⟩
      · rw [w_54, w_lit, w_lit]
        exact List.mem_cons_self ..
      · rw [w_54, w_lit, w_lit]
        exact List.mem_append_right _ (List.mem_cons_self ..)

/-- The routes that came in, opened. -/
theorem open_routes {H : Type} {enc : TypeId × Value → H} {W : World} {a : Option Addr} {len cap : Nat} {d : DataW H} {p : List MemPlace} (h : DataW.Trod enc Ybad.prog W 0 (fun _ => true) true 41 (.slice a len cap) d p) :
    ∃ l : List (ByteArray × Int), RArgs W (.slice a len cap) l ∧ l.length ≤ 9223372036854775807 ∧ (∀ i, i < l.length → (l.getD i default).1.size ∈ d.weights Ybad.prog 41) := by
  obtain ⟨fuel, hf⟩ := h
  rcases Deep.open_slice_pairs Ybad.underlying41 Ybad.underlying60 cells60 rfl rfl cellsOne9 cellsOne5 hf with ⟨hcs, hx⟩ | ⟨x, len', cap', m, n, V0, V1, D0, D1, P0, P1, hcs, _, hl, hm, hz, hx, hcell⟩
  · simp [Value.cells] at hcs
    obtain ⟨rfl, rfl, rfl⟩ := hcs
    exact ⟨[], ⟨none, 0, rfl, .inl rfl⟩, by simp, fun i hi => by simp at hi⟩
  · simp [Value.cells] at hcs
    obtain ⟨rfl, rfl, rfl⟩ := hcs
    simp only [if_true] at hz
    unfold maxLen at hm
    have key : ∀ i, i < len → ∃ q : ByteArray × Int, W.cell? (x.add (i * 2)) = some (.string q.1) ∧ W.cell? (x.add (i * 2 + 1)) = some (.int .u8 q.2) ∧ D0 i = .lit (.string q.1.data.toList) ∧ 0 ≤ q.2 ∧ q.2 ≤ 255 := by
      intro i hi
      obtain ⟨c0, c1, t0, t1⟩ := hcell i (by omega)
      obtain ⟨s1, e4, f4, _⟩ := DataW.trod_string Ybad.underlying9 t0
      obtain ⟨z, e5, _, wz⟩ := DataW.trod_int Ybad.underlying5 t1
      simp only [List.cons.injEq, and_true] at e4 e5
      rw [e4] at c0
      rw [e5] at c1
      have b := bounds_u8 wz
      exact ⟨(s1, z), c0, c1, congrArg Prod.fst f4, b.1, b.2⟩
    obtain ⟨f, hf⟩ := Deep.choose_lt key
    have hget : ∀ i, i < len → ((List.range len).map f).getD i default = f i := fun i hi => by
      simp [List.getD_eq_getElem?_getD, hi]
    have hll : ((List.range len).map f).length = len := by simp
    refine ⟨(List.range len).map f, ⟨some x, cap, by rw [hll], ?_⟩, by omega, fun i hi => ?_⟩
    · by_cases h0 : len = 0
      · subst h0; exact .inl rfl
      · obtain ⟨b, off, spot⟩ := x
        have hspot : spot = none := by simpa [Addr.add] using World.cell?_spot (hf 0 (by omega)).1
        subst hspot
        refine .inr ⟨b, off, rfl, fun i hi => ?_⟩
        rw [hll] at hi
        rw [hget i hi]
        have := hf i hi
        simp only [Go.WideShapes.add_plain] at this
        exact ⟨this.1, by simpa only [Nat.add_assoc] using this.2.1, this.2.2.2⟩
    · rw [hll] at hi
      rw [hget i hi]
      have hx1 : d = _ := congrArg Prod.fst hx
      have hmem : (DataW.agg [D0 i, D1 i] : DataW H) ∈ (List.range len).map fun i => DataW.agg [D0 i, D1 i] := List.mem_map.2 ⟨i, List.mem_range.2 hi, rfl⟩
      have hw : ∀ k, k ∈ (DataW.agg [D0 i, D1 i] : DataW H).weights Ybad.prog 60 → k ∈ d.weights Ybad.prog 41 := fun k hk => by
        rw [hx1, DataW.weights, Ybad.underlying41]
        simp only [List.mem_cons, List.mem_append]
        exact .inr (.inl (wAll_mem hmem hk))
      have hq := hf i hi
      rw [hq.2.2.1] at hw
      refine hw _ ?_
      rw [w_60, w_lit]
      exact List.mem_append_left _ (List.mem_cons_self ..)

end Go.Proofs.YbulkcrxaDoor
