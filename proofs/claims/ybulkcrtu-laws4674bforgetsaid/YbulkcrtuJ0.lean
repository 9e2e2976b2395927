import Derived.Test.YbulkcrtuI
namespace Go.Proofs.Ybulkcrtu
open Go.RowKit Go.ChangeMaps Go.MapKept Go.MuLone

/-- The slice of numbers that came in. -/
def UArg (w : World) (a : Option Addr) (n : Nat) (z : Nat → Int) : Prop :=
  n = 0 ∨ ∃ b off, a = some ⟨b, off, none⟩ ∧ ∀ i, i < n → w.cell? ⟨b, off + i, none⟩ = some (.int .u32 (z i)) ∧ Id (z i)
/-- The transport with the calls of the first k numbers. -/
def St (w0 w : World) (T ch M Ma b k : Nat) (z : Nat → Int) (sz : Nat) (blk : Int → Option Nat) (buf : Array Value) (s : Nat) : Prop :=
  Below w0.heap.size w0 w ∧ w0.heap.size ≤ T ∧ w0.heap.size ≤ ch ∧ w0.heap.size ≤ M ∧ w0.heap.size ≤ Ma ∧ w0.heap.size ≤ b ∧ M ≠ Ma ∧ w.heap[T]? = some (.cells (trC 0 ch M Ma b) 96 (0, 0)) ∧ w.heap[ch]? = some (.chan 1024 buf false s 0 false) ∧ buf.size = sz ∧ MapU w M k sz (fOf blk) ∧ MapU w Ma 0 0 (fun _ => none) ∧ w.heap[b]? = some (.cells (emptyL b) 151 (0, 0)) ∧
  (∀ x, Id x → ((blk x).isSome = true ↔ ∃ i, i < k ∧ z i = x)) ∧ ∀ x d, blk x = some d → w.heap[d]? = some (.cells (callC x) 114 (0, 0)) ∧ w0.heap.size ≤ d

theorem put_self (A : Act) (s : Nat) : A.put (some s) (A.eval (.tmp s)) = A := by
  refine Act.ext' ?_ rfl
  show A.tmps.setIfInBounds s (A.eval (.tmp s)) = A.tmps
  apply Array.ext_getElem?
  intro j
  rw [Array.getElem?_setIfInBounds, eval_tmp]
  by_cases h : s = j
  · subst h
    rw [if_pos rfl]
    split
    · rename_i hlt
      rw [Array.getElem?_eq_getElem hlt]
      rfl
    · rename_i hlt
      rw [Array.getElem?_eq_none (by omega)]
  · rw [if_neg h]
theorem build89 {w : World} : (Instr.build 89 #[]).run Yba.prog w = .ok (.agg #[]) w := by kernel_rfl
theorem callC_big (x : Int) : callC x = Array.foldl (fun cs (x : Value × Nat) => cs.setIfInBounds x.snd x.fst) Yba.zeroCells114 (Yba.zeroCells109.setIfInBounds 1 (Value.int IntKind.u32 x)).zipIdx 0 259 := by kernel_rfl
theorem agg72 (w : World) : (isAgg 72).run Yba.prog w = .ok false w := by kernel_rfl
theorem field96_10 (w : World) (b : Nat) : (Instr.fieldAt 96 (.pointer (some ⟨b, 0, none⟩)) 10).run Yba.prog w = .ok (.pointer (some ⟨b, 16, none⟩)) w := by kernel_rfl

end Go.Proofs.Ybulkcrtu
