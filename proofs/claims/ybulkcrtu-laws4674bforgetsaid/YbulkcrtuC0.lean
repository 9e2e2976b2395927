import Derived.Test.YbulkcrtuO
import Derived.Test.YbulkcrtuT
import Derived.Test.YbulkcrtuLk
import Derived.Defers
namespace Go.Proofs.Ybulkcrtu
open Go.RowKit Go.ChangeMaps Go.MapKept Go.MuLone

/-- The cells of the first n times. -/
def tcells : Nat → List Value
  | 0 => []
  | n + 1 => tcells n ++ [.int .u64 ((n + 1 : Nat) : Int), .int .i64 0, .pointer none]
theorem tcells_len : ∀ n, (tcells n).length = n * 3
  | 0 => rfl
  | n + 1 => by show (tcells n ++ _).length = _; rw [List.length_append, tcells_len n]; simp; omega
theorem tcells_one : ∀ n, ∀ u ∈ tcells n, u.oneCell' = true
  | 0, u, h => by cases h
  | n + 1, u, h => by
    rcases List.mem_append.1 h with h | h
    · exact tcells_one n u h
    · simp only [List.mem_cons, List.not_mem_nil, or_false] at h
      rcases h with rfl | rfl | rfl <;> rfl
theorem info118f : (Yba.prog.info? 118).map (fun i => (i.zero, i.size, i.bytes)) = some (some (.agg #[.int .u64 0, .int .i64 0, .pointer none]), 3, 24) := by kernel_rfl

set_option maxHeartbeats 1000000 in
theorem clone_any (S n : Nat) (w : World) (hn : n ≤ 5) (hS : w.heap[S]? = some (.cells (tcells n).toArray 118 (0, 0))) :
    Calls Yba.prog 43 #[.slice (some ⟨S, 0, none⟩) n n] w fun e w' => ∃ a c, e = .returned (.slice a n c) ∧ w'.ownsRow w.heap.size 118 3 (.slice a n c) n (tcells n) ∧ Below w.heap.size w w' := by
  obtain ⟨i0, hi, hz0, hz1, hz2⟩ := info_parts info118f
  have hq := fun wx => Lib.run_eql_slice_nil (P := Yba.prog) wx
  have hSl := (Array.getElem?_eq_some_iff.1 hS).1
  have hlen := tcells_len n
  have hsrc : ∀ j u, (tcells n)[j]? = some u → (w.alloc (.cells #[] 118)).cell? ((⟨S, 0, none⟩ : Addr).add j) = some u := by
    intro j u hu
    rw [cell_at (blk_keep hS)]
    simpa using hu
  go_enter Yba.func43, Yba.ntmps43
  go_wp2_with (first
    | (at_builtin; refine Hid.out ?_)
    | go_in)
  unfold Hid
  refine wpList_append_own _ rfl (.tmp 5) (.tmp 6) 78 rfl w.heap.size 118 i0 (.agg #[.int .u64 0, .int .i64 0, .pointer none]) 3 24 Yba.underlying78 hi hz0 hz1 hz2 rfl (by decide) (.slice (some ⟨w.heap.size, 0, none⟩) 0 0) 0 [] rfl (World.ownsRow_made w #[] 0 (Nat.le_refl _) (by decide) rfl) ⟨S, 0, none⟩ n n (tcells n) rfl hlen hsrc (tcells_one n) (by unfold maxLen; omega) (by omega) (by simp) ?_
  intro v' w' ho hg hnil
  simp only [Nat.zero_add, List.nil_append] at ho
  have hb : Below w.heap.size w w' := ((Below.refl _ _).alloc (Nat.le_refl _) _).grown hg (by simp) (by simp [Value.ownBlock])
  have hsh : ∃ a c, v' = .slice a n c := by
    rcases ho.2 with ⟨e1, e2⟩ | ⟨g, cap, _, e, _⟩
    · subst e2; exact ⟨none, 0, e1⟩
    · exact ⟨_, _, e⟩
  obtain ⟨a', c', rfl⟩ := hsh
  clear hg hsrc hnil
  go_wp2
  go_ret
  exact ⟨a', c', rfl, ho, hb⟩

theorem set_back {cs : Array Value} {i : Nat} {v u : Value} (h : cs[i]? = some v) : (cs.setIfInBounds i u).setIfInBounds i v = cs := by
  apply Array.ext_getElem?
  intro j
  rw [Array.getElem?_setIfInBounds]
  by_cases hj : i = j
  · subst hj
    have := (Array.getElem?_eq_some_iff.1 h).1
    rw [if_pos rfl, if_pos (by simpa using this), h]
  · rw [if_neg hj, Array.getElem?_setIfInBounds_ne hj]
end Go.Proofs.Ybulkcrtu
