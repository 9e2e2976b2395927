import Derived.Test.YbulkcrtuN
import Derived.LaidEqlPtr
namespace Go.Proofs.Ybulkcrtu
open Go.RowKit Go.ChangeMaps Go.MapKept Go.MuLone

def trC (st : Int) (ch M Ma b : Nat) : Array Value := #[.pointer none, .int .u64 0, .int .u64 0, .pointer none, .int .u16 0, .int .i64 0, .int .i64 0, .int .i64 0, .nilFunc, .nilFunc, .pointer none, .pointer none, .chan none, .chan (some ch), .int .i32 st, .int .u32 0, .map (some M), .int .i64 1024, .map (some Ma), .pointer (some ⟨b, 0, none⟩)]
def ptr (p : Option Nat) : Value := .pointer (p.map fun d => ⟨d, 0, none⟩)
def fOf (blk : Int → Option Nat) : Int → Option Value := fun x => (blk x).map fun d => .pointer (some ⟨d, 0, none⟩)
theorem fOf_getD (blk : Int → Option Nat) (x : Int) : (fOf blk x).getD (.pointer none) = ptr (blk x) := by unfold fOf ptr; cases blk x <;> rfl
theorem info114 : ∃ j, Yba.prog.info? 114 = some j ∧ j.size ≠ 0 := by
  have h : (Yba.prog.info? 114).map (fun i => decide (i.size = 0)) = some false := by kernel_rfl
  obtain ⟨j, hj, hb⟩ := Option.map_eq_some_iff.1 h
  exact ⟨j, hj, by simpa using hb⟩
theorem zero97 (w : World) : (zeroValue 97).run Yba.prog w = .ok (.pointer none) w := by kernel_rfl
theorem eqlNS (a : Addr) (w : World) : (binOp .eql 97 (.pointer none) (.pointer (some a))).run Yba.prog w = .ok (.bool false) w := by
  have h : ∀ d : Nat, (Op.equalIn (d + 1) 97 (.pointer none) (.pointer (some a))).run Yba.prog w = .ok false w := fun d => by
    simp [Op.equalIn, run_underlying Yba.underlying97]
  simp only [binOp]
  simp [Op.equal, Op.maxDepth, h 9999]
/-- Two pointers to calls, compared. -/
theorem eql97 {w : World} {p q : Option Nat} (hp : ∀ d, p = some d → ∃ ca, w.heap[d]? = some (.cells ca 114 (0, 0))) (hq : ∀ d, q = some d → ∃ ca, w.heap[d]? = some (.cells ca 114 (0, 0))) : (binOp .eql 97 (ptr p) (ptr q)).run Yba.prog w = .ok (.bool (decide (p = q))) w := by
  obtain ⟨j, hj, hj0⟩ := info114
  cases p with
  | none =>
    cases q with
    | none => exact (run_eql_pointer_nil w 97 none (by kernel_rfl))
    | some d => exact eqlNS _ w
  | some d =>
    cases q with
    | none => exact (run_eql_pointer_nil w 97 _ (by kernel_rfl))
    | some d' =>
      obtain ⟨ca, ha⟩ := hp d rfl
      obtain ⟨cb, hb⟩ := hq d' rfl
      by_cases h : d = d'
      · subst h
        simpa [ptr] using run_eql_ptr_same w ⟨d, 0, none⟩ Yba.underlying97 hj
      · simpa [ptr, h] using run_eql_ptr_other w (a := ⟨d, 0, none⟩) (b := ⟨d', 0, none⟩) Yba.underlying97 hj hj0 (fun e => h (congrArg Addr.block e)) ha hb

set_option maxRecDepth 100000 in
set_option maxHeartbeats 2000000 in
theorem forget_no (T c ch M Ma b n sz : Nat) (id : Int) (blk : Int → Option Nat) (cs : Array Value) (w : World) (hid : Id id) (hT : w.heap[T]? = some (.cells (trC 0 ch M Ma b) 96 (0, 0))) (hc : w.heap[c]? = some (.cells cs 114 (0, 0))) (h1 : cs[1]? = some (.int .u32 id))
    (hM : MapU w M n sz (fOf blk)) (hbl : ∀ d, blk id = some d → ∃ ca, w.heap[d]? = some (.cells ca 114 (0, 0))) (hne : blk id ≠ some c) :
    Calls Yba.prog 15 #[.pointer (some ⟨T, 0, none⟩), .pointer (some ⟨c, 0, none⟩)] w fun e w' => e = .returned (.tuple #[]) ∧ Below w.heap.size w w' := by
  have hTl := (Array.getElem?_eq_some_iff.1 hT).1
  have hcT : c ≠ T := fun e => by rw [e, hT] at hc; simp at hc
  have hMT : M ≠ T := fun e => by obtain ⟨_, _, h⟩ := hM.map; rw [e, hT] at h; cases h
  have k0 : w.cell? ⟨T, 14, none⟩ = some (.int .i32 0) := cell_of_row w T 14 _ _ _ hT
  have f0 := frozen_of_row w T 14 _ _ hT
  obtain ⟨W, hWd⟩ : ∃ W, W = w.setCell ⟨T, 14, none⟩ (.int .i32 1) := ⟨_, rfl⟩
  have hlk := lock_free muLib ⟨T, 14, none⟩ w k0 f0
  rw [← hWd] at hlk
  have hTW : W.heap[T]? = some (.cells (trC 1 ch M Ma b) 96 (0, 0)) := by rw [hWd]; exact heap_setCell_same _ _ _ _ _ _ hT
  have hWo : ∀ q, q ≠ T → W.heap[q]? = w.heap[q]? := fun q hq => by rw [hWd]; exact heap_setCell_other _ _ _ _ hq
  have hWs : W.heap.size = w.heap.size := by rw [hWd]; simp [World.setCell]
  have hWx : W.os = w.os ∧ W.tape = w.tape ∧ W.output = w.output := by rw [hWd]; exact ⟨rfl, rfl, rfl⟩
  have hMW : MapU W M n sz (fOf blk) := hM.of_block (hWo M hMT)
  have hcW : W.heap[c]? = some (.cells cs 114 (0, 0)) := (hWo c hcT).trans hc
  have k16 : W.cell? ⟨T, 16, none⟩ = some (.map (some M)) := cell_of_row W T 16 _ _ _ hTW
  have kc1 : W.cell? ⟨c, 1, none⟩ = some (.int .u32 id) := (cell_of_row W c 1 _ _ _ hcW).trans h1
  have hll : ∀ m, (Instr.lookup 72 (.map (some M)) (.int .u32 id) false).run Yba.prog (W.drewN m) = .ok (ptr (blk id)) (W.drewN m) := fun m => by
    have := (hMW.of_block (w' := W.drewN m) rfl).look Yba.underlying72 (zero97 _) hid
    rw [fOf_getD] at this
    exact this
  have hblW : ∀ d, blk id = some d → ∃ ca, W.heap[d]? = some (.cells ca 114 (0, 0)) := fun d hd => by
    obtain ⟨ca, h⟩ := hbl d hd
    exact ⟨ca, (hWo d (fun e => by rw [e, hT] at h; simp at h)).trans h⟩
  have heq : ∀ m, (binOp .eql 97 (ptr (blk id)) (.pointer (some ⟨c, 0, none⟩))).run Yba.prog (W.drewN m) = .ok (.bool false) (W.drewN m) := fun m => by
    have := eql97 (w := W.drewN m) (p := blk id) (q := some c) hblW (fun d hd => by obtain rfl := Option.some.inj hd; exact ⟨cs, hcW⟩)
    rw [decide_eq_false hne] at this
    exact this
  clear hWd
  cases hbk : blk id with
  | none =>
    rw [hbk] at hll heq
    simp only [ptr, Option.map_none] at hll heq
    clear hbk hblW hne hbl
    go_enter Yba.func15, Yba.ntmps15
    go_upto_region 1 with (go_at_call 30; refine hlk.mono ?_; rintro e w' ⟨rfl, hw'⟩; subst hw')
    rename World => W'
    go_quiet (fail)
    have hTq : (W'.drewN nq).heap[T]? = some (.cells (trC 1 ch M Ma b) 96 (0, 0)) := hTW
    have u0 : (W'.drewN nq).cell? ⟨T, 14, none⟩ = some (.int .i32 1) := cell_of_row _ T 14 _ _ _ hTq
    have u1 := frozen_of_row _ T 14 _ _ hTq
    have hul := unlock_held muLib ⟨T, 14, none⟩ (W'.drewN nq) u0 u1
    have hbF : Below w.heap.size w ((W'.drewN nq).setCell ⟨T, 14, none⟩ (.int .i32 0)) := by
      refine ⟨hWx.1, hWx.2.1, hWx.2.2, by simp [World.setCell]; omega, fun q hq => ?_⟩
      by_cases hqT : q = T
      · subst hqT
        rw [heap_setCell_same _ _ _ _ _ _ hTq, hT]
        rfl
      · rw [heap_setCell_other _ _ _ _ hqT]
        exact hWo q hqT
    go_wp2_with (first
      | (go_at_call 33; refine hul.mono ?_; rintro e w'' ⟨rfl, hw''⟩; subst hw'')
      | fail)
    go_end0
    exact ⟨rfl, hbF⟩
  | some d =>
    rw [hbk] at hll heq
    simp only [ptr, Option.map_some] at hll heq
    clear hbk hblW hne hbl
    go_enter Yba.func15, Yba.ntmps15
    go_upto_region 1 with (go_at_call 30; refine hlk.mono ?_; rintro e w' ⟨rfl, hw'⟩; subst hw')
    rename World => W'
    go_quiet (fail)
    have hTq : (W'.drewN nq).heap[T]? = some (.cells (trC 1 ch M Ma b) 96 (0, 0)) := hTW
    have u0 : (W'.drewN nq).cell? ⟨T, 14, none⟩ = some (.int .i32 1) := cell_of_row _ T 14 _ _ _ hTq
    have u1 := frozen_of_row _ T 14 _ _ hTq
    have hul := unlock_held muLib ⟨T, 14, none⟩ (W'.drewN nq) u0 u1
    have hbF : Below w.heap.size w ((W'.drewN nq).setCell ⟨T, 14, none⟩ (.int .i32 0)) := by
      refine ⟨hWx.1, hWx.2.1, hWx.2.2, by simp [World.setCell]; omega, fun q hq => ?_⟩
      by_cases hqT : q = T
      · subst hqT
        rw [heap_setCell_same _ _ _ _ _ _ hTq, hT]
        rfl
      · rw [heap_setCell_other _ _ _ _ hqT]
        exact hWo q hqT
    go_wp2_with (first
      | (go_at_call 33; refine hul.mono ?_; rintro e w'' ⟨rfl, hw''⟩; subst hw'')
      | fail)
    go_end0
    exact ⟨rfl, hbF⟩

end Go.Proofs.Ybulkcrtu
