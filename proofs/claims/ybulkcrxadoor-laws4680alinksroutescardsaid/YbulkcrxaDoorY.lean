import Derived.Test.YbulkcrxaDoorRR
namespace Go.Proofs.YbulkcrxaDoor
open Go.RowKit

/-- The routes that are handed in: a node and a number. -/
def RArgs (w : World) (v : Value) (rs : List (ByteArray × Int)) : Prop :=
  ∃ a cap, v = .slice a rs.length cap ∧ (rs = [] ∨ ∃ b off, a = some ⟨b, off, none⟩ ∧ ∀ i, i < rs.length → w.cell? ⟨b, off + i * 2, none⟩ = some (.string (rs.getD i default).1) ∧ w.cell? ⟨b, off + i * 2 + 1, none⟩ = some (.int .u8 (rs.getD i default).2) ∧ 0 ≤ (rs.getD i default).2 ∧ (rs.getD i default).2 ≤ 255)

/-- The topology's routes, in memory of the call's own. -/
def ORoutes (w : World) (base : Nat) (v : Value) (rr : List (ByteArray × Nat × Value)) : Prop :=
  w.ownsRow base 63 6 v rr.length (cellsR rr) ∧ ∀ i, i < rr.length → ∃ b, (rr.getD i default).2.2 = .slice (some ⟨b, 0, none⟩) (rr.getD i default).2.1 (rr.getD i default).2.1 ∧ base ≤ b ∧ w.heap[b]? = some (.cells (gwZeros (rr.getD i default).2.1).toArray 49 (0, 0))

theorem gwZeros_at : ∀ (n i : Nat), i < n → (gwZeros n)[i * 3]? = some (.int .u64 0) ∧ (gwZeros n)[i * 3 + 1]? = some (.int .u64 0) ∧ (gwZeros n)[i * 3 + 2]? = some (.pointer none) := by
  have hl : ∀ n, (gwZeros n).length = 3 * n := by
    intro n
    induction n with
    | zero => rfl
    | succ n ih => show (gwZeros n ++ _).length = _; rw [List.length_append, ih]; simp; omega
  intro n
  induction n with
  | zero => intro i h; omega
  | succ n ih =>
    intro i hi
    have e : gwZeros (n + 1) = gwZeros n ++ [.int .u64 0, .int .u64 0, .pointer none] := rfl
    rw [e]
    by_cases h : i < n
    · obtain ⟨a, b, c⟩ := ih i h
      rw [List.getElem?_append_left (by rw [hl]; omega), List.getElem?_append_left (by rw [hl]; omega), List.getElem?_append_left (by rw [hl]; omega)]
      exact ⟨a, b, c⟩
    · have : i = n := by omega
      subst this
      rw [List.getElem?_append_right (by rw [hl]; omega), List.getElem?_append_right (by rw [hl]; omega), List.getElem?_append_right (by rw [hl]; omega), hl]
      rw [show i * 3 - 3 * i = 0 by omega, show i * 3 + 1 - 3 * i = 1 by omega, show i * 3 + 2 - 3 * i = 2 by omega]
      exact ⟨rfl, rfl, rfl⟩

theorem ORoutes.routes {w : World} {base : Nat} {v : Value} {rr : List (ByteArray × Nat × Value)} (h : ORoutes w base v rr) : Routes w v rr := by
  obtain ⟨h, hg⟩ := h
  rcases h.2 with ⟨rfl, hn⟩ | ⟨g, cap, cur, rfl, _, _⟩
  · exact ⟨none, 0, by rw [hn], .inl (List.eq_nil_of_length_eq_zero hn)⟩
  · refine ⟨some ⟨g, 0, none⟩, cap, rfl, .inr ⟨g, 0, rfl, fun i hi => ⟨?_, fun j hj => ?_⟩⟩⟩
    · obtain ⟨b, e, _, hb⟩ := hg i hi
      refine ⟨b, e, fun q hq => ?_⟩
      obtain ⟨a1, a2, a3⟩ := gwZeros_at _ q hq
      exact ⟨(cell_of_block hb _).trans a1, (cell_of_block hb _).trans a2, (cell_of_block hb _).trans a3⟩
    · rw [Nat.zero_add, World.ownsRow.cellAt h (i * 6 + j) (by omega), cellsR_at rr i j hi hj]

theorem ORoutes.nil (w : World) (base : Nat) : ORoutes w base (.slice none 0 0) [] := ⟨World.ownsRow_nil _ _ _ _, fun i hi => by simp at hi⟩
theorem ORoutes.shape {w : World} {base : Nat} {v : Value} {l : List (ByteArray × Nat × Value)} (h : ORoutes w base v l) : ∃ a c, v = .slice a l.length c := by
  rcases h.1.2 with ⟨e, e2⟩ | ⟨_, _, _, e, _⟩
  · exact ⟨none, 0, by rw [e, e2]⟩
  · exact ⟨_, _, e⟩
theorem ORoutes.below {w w' : World} {base : Nat} {v : Value} {rr : List (ByteArray × Nat × Value)} (h : ORoutes w base v rr) (hb : Below w.heap.size w w') : ORoutes w' base v rr :=
  ⟨owns_below h.1 hb, fun i hi => by
    obtain ⟨b, e, hl, hh⟩ := h.2 i hi
    exact ⟨b, e, hl, (hb.block b (Array.getElem?_eq_some_iff.1 hh).1).trans hh⟩⟩
theorem OLinks.below {w w' : World} {base : Nat} {v : Value} {l : List (ByteArray × ByteArray)} (h : OLinks w base v l) (hb : Below w.heap.size w w') : OLinks w' base v l := owns_below h hb

theorem getD_snoc {α : Type} (l : List α) (x d : α) (i : Nat) : (l ++ [x]).getD i d = if i < l.length then l.getD i d else if i = l.length then x else d := by
  simp only [List.getD_eq_getElem?_getD, List.getElem?_append]
  by_cases h : i < l.length
  · simp [h]
  · simp only [h, if_false]
    by_cases h2 : i = l.length
    · subst h2; simp
    · rw [if_neg h2, List.getElem?_eq_none (by simp; omega)]; rfl

theorem ORoutes.push {W w3 : World} {T k : Nat} {pn : ByteArray} {q : Int} {rr : List (ByteArray × Nat × Value)} {v0 v : Value} (h : ORoutes W (T + 1) v0 rr) (hT : T + 1 ≤ W.heap.size) (hk : rr.length = k) (hg : GrewR W T k pn q (cellsR rr) v w3) : ORoutes w3 (T + 1) v (rr ++ [(pn, (q % 5).toNat, gwOf W q)]) := by
  obtain ⟨_, hown, _, row, hne, hgr, hnew⟩ := hg
  have hs2 : (W16a W q).heap.size = W.heap.size + 1 := by unfold W16a; simp
  refine ⟨?_, fun i hi => ?_⟩
  · rw [List.length_append, hk]
    simpa [cellsR] using hown
  · rw [List.length_append] at hi
    rw [getD_snoc]
    by_cases hlt : i < rr.length
    · rw [if_pos hlt]
      obtain ⟨b, e, hl, hb⟩ := h.2 i hlt
      refine ⟨b, e, hl, ?_⟩
      have hbl := (Array.getElem?_eq_some_iff.1 hb).1
      rw [hgr.block b (by unfold W16b; simp; omega) (hne b 49 _ (by decide) hb)]
      exact blk_keep (blk_keep hb)
    · rw [if_neg hlt, if_pos (by simp at hi; omega)]
      refine ⟨W.heap.size, rfl, hT, ?_⟩
      rw [hgr.block W.heap.size (by unfold W16b; simp; omega) hnew]
      exact blk_keep (heap1a W.drew _)

end Go.Proofs.YbulkcrxaDoor
