import Derived.Test.YbulkcrtuSC
namespace Go.Proofs.Ybulkcrtu
open Go.RowKit

section
variable {Q : Exit → Act → World → Prop} {K : Act → World → Prop} {a : Act} {w : World} {N : Nat} {l : List (Nat × Value)}
theorem cdts {c : Operand} {y : Code} (hA : At a N l) (hc : ev l c = some (.bool true)) (h : K a w) : (Code.cond c .skip y).wp Yba.prog (Exit.then K Q) a w := cdt hA hc (wp_skip h)
theorem cdfs {c : Operand} {x : Code} (hA : At a N l) (hc : ev l c = some (.bool false)) (h : K a w) : (Code.cond c x .skip).wp Yba.prog (Exit.then K Q) a w := cdf hA hc (wp_skip h)
theorem cdte {c : Operand} {y : Code} {i : Nat} (hA : At a N l) (hc : ev l c = some (.bool true)) (h : Q (.exit i) a w) : (Code.cond c (.exit i) y).wp Yba.prog (Exit.then K Q) a w := cdt hA hc (wp_exit h)
theorem cdfe {c : Operand} {x : Code} {i : Nat} (hA : At a N l) (hc : ev l c = some (.bool false)) (h : Q (.exit i) a w) : (Code.cond c x (.exit i)).wp Yba.prog (Exit.then K Q) a w := cdf hA hc (wp_exit h)
theorem lpb {c : Code} {i : Nat} (I : Nat → Act → World → Prop) (n : Nat) (h0 : I n a w)
    (round : ∀ n a w, I n a w → c.wp Yba.prog (Exit.then (fun a' w' => ∃ m, m < n ∧ I m a' w') (Exit.inBlock i Q)) a w) : (Code.block i (.loop c)).wp Yba.prog Q a w :=
  wp_block (wp_loop_ghost I n h0 round)
theorem cdfz {c : Operand} {x : Code} (hA : At a N l) (hc : ev l c = some (.bool false)) (h : Q .normal a w) : (Code.cond c x .skip).wp Yba.prog Q a w := cdf hA hc (wp_skip h)
theorem cdtz {c : Operand} {x : Code} (hA : At a N l) (hc : ev l c = some (.bool true)) (h : Q .normal a w) : (Code.cond c .skip x).wp Yba.prog Q a w := cdt hA hc (wp_skip h)
theorem n_in {i : Nat} (h : Q .normal a w) : Exit.inBlock i Q .normal a w := h
theorem n_th (h : K a w) : Exit.then K Q .normal a w := h
theorem x_th {j : Nat} (h : Q (.exit j) a w) : Exit.then K Q (.exit j) a w := h
theorem r_in {i : Nat} (h : Q .ret a w) : Exit.inBlock i Q .ret a w := h
theorem r_th (h : Q .ret a w) : Exit.then K Q .ret a w := h
/-- The last member of a row. -/
theorem rg {id : Nat} {os : List Oper} (h : wpList Yba.prog os.toArray Q os a w) : (Code.region id os.toArray false).wp Yba.prog Q a w := wp_region_lit h
end
section
variable (x y : Operand) (m n : Int)
theorem lss3T (h : m < n) : Bin .lss 3 x y (.int .i64 m) (.int .i64 n) (.bool true) := by have := lss3 x y m n; rwa [decide_eq_true h] at this
theorem lss3F (h : ¬ m < n) : Bin .lss 3 x y (.int .i64 m) (.int .i64 n) (.bool false) := by have := lss3 x y m n; rwa [decide_eq_false h] at this
theorem leq3T (h : m ≤ n) : Bin .leq 3 x y (.int .i64 m) (.int .i64 n) (.bool true) := by have := leq3 x y m n; rwa [decide_eq_true h] at this
theorem leq3F (h : ¬ m ≤ n) : Bin .leq 3 x y (.int .i64 m) (.int .i64 n) (.bool false) := by have := leq3 x y m n; rwa [decide_eq_false h] at this
theorem gtr3T (h : m > n) : Bin .gtr 3 x y (.int .i64 m) (.int .i64 n) (.bool true) := by have := gtr3 x y m n; rwa [decide_eq_true h] at this
theorem gtr3F (h : ¬ m > n) : Bin .gtr 3 x y (.int .i64 m) (.int .i64 n) (.bool false) := by have := gtr3 x y m n; rwa [decide_eq_false h] at this
theorem geq3T (h : m ≥ n) : Bin .geq 3 x y (.int .i64 m) (.int .i64 n) (.bool true) := by have := geq3 x y m n; rwa [decide_eq_true h] at this
theorem geq3F (h : ¬ m ≥ n) : Bin .geq 3 x y (.int .i64 m) (.int .i64 n) (.bool false) := by have := geq3 x y m n; rwa [decide_eq_false h] at this
theorem eql3T (h : m = n) : Bin .eql 3 x y (.int .i64 m) (.int .i64 n) (.bool true) := by have := eql3 x y m n; rwa [decide_eq_true h] at this
theorem eql3F (h : ¬ m = n) : Bin .eql 3 x y (.int .i64 m) (.int .i64 n) (.bool false) := by have := eql3 x y m n; rwa [decide_eq_false h] at this
theorem eql42T (h : m = n) : Bin .eql 42 x y (.int .i64 m) (.int .i64 n) (.bool true) := by have := eql42 x y m n; rwa [decide_eq_true h] at this
theorem eql42F (h : ¬ m = n) : Bin .eql 42 x y (.int .i64 m) (.int .i64 n) (.bool false) := by have := eql42 x y m n; rwa [decide_eq_false h] at this
theorem neq3T (h : m ≠ n) : Bin .neq 3 x y (.int .i64 m) (.int .i64 n) (.bool true) := by have := neq3 x y m n; rwa [decide_eq_true h] at this
theorem neq3F (h : ¬ m ≠ n) : Bin .neq 3 x y (.int .i64 m) (.int .i64 n) (.bool false) := by have := neq3 x y m n; rwa [decide_eq_false h] at this
end
theorem blt_max (ty : TypeId) (cs : Array Bool) (x y : Int) (w : World) : ∃ w', Blt .max #[3, 3] ty cs #[.int .i64 x, .int .i64 y] w (.int .i64 (max x y)) w' ∧ w' = w := by
  refine ⟨w, ?_, rfl⟩
  unfold Blt
  simp [go_sem]
  omega
theorem blt_min (ty : TypeId) (cs : Array Bool) (x y : Int) (w : World) : ∃ w', Blt .min #[3, 3] ty cs #[.int .i64 x, .int .i64 y] w (.int .i64 (min x y)) w' ∧ w' = w := by
  refine ⟨w, ?_, rfl⟩
  unfold Blt
  simp [go_sem]
  omega
/-- The steps between two places of a row of n, round if wr. -/
def stepsf (i j n : Int) (wr : Bool) : Int := if wr = true then min (max (i - j) (j - i)) (n - max (i - j) (j - i)) else max (i - j) (j - i)
set_option maxRecDepth 100000 in
theorem steps_any (i j n : Int) (wr : Bool) (bw bn : Nat) (w : World) (hi : -1000 ≤ i ∧ i ≤ 1000) (hj : -1000 ≤ j ∧ j ≤ 1000) (hn : -1000 ≤ n ∧ n ≤ 1000) (hw : Row w bw 4 1 (fun _ => .bool wr)) (hr : Row w bn 3 1 (fun _ => .int .i64 n)) :
    Calls Yba.prog 19 #[.int .i64 i, .int .i64 j, .pointer (some ⟨bw, 0, none⟩), .pointer (some ⟨bn, 0, none⟩)] w fun e w' => e = .returned (.int .i64 (stepsf i j n wr)) ∧ w' = w := by
  refine enter (args := [.int .i64 i, .int .i64 j, .pointer (some ⟨bw, 0, none⟩), .pointer (some ⟨bn, 0, none⟩)]) Yba.func19 rfl 22 Yba.ntmps19 rfl fun a hA => ?_
  refine sq ?_
  refine st0 hA (wn rfl) rfl rfl (x_as rfl) fun a hA => ?_
  refine fin ?_
  refine sq ?_
  refine st0 hA (wn rfl) rfl rfl (x_mv rfl) fun a hA => ?_
  refine st0 hA (wn rfl) rfl rfl (x_mv rfl) fun a hA => ?_
  refine st0 hA (wn rfl) rfl rfl (x_bin rfl rfl (sub3 _ _ _ _ (by omega) (by omega))) fun a hA => ?_
  refine st0 hA (wn rfl) rfl rfl (x_mv rfl) fun a hA => ?_
  refine st0 hA (wn rfl) rfl rfl (x_mv rfl) fun a hA => ?_
  refine st0 hA (wn rfl) rfl rfl (x_bin rfl rfl (sub3 _ _ _ _ (by omega) (by omega))) fun a hA => ?_
  refine st0 hA (wn rfl) rfl rfl (x_blt rfl (blt_max _ _ _ _ _)) fun a hA => ?_
  refine st0 hA (wn rfl) rfl rfl (x_as rfl) fun a hA => ?_
  refine fin ?_
  refine wp_seq ?_
  refine sq ?_
  refine st0 hA (wn rfl) rfl rfl (x_load rfl (hw.load1 ag4 (by omega))) fun a hA => ?_
  refine fin ?_
  cases wr with
  | false =>
    refine cdfs hA rfl ?_
    refine sq ?_
    refine st0 hA (wn rfl) rfl rfl (x_mv rfl) fun a hA => ?_
    refine st0 hA (wn rfl) rfl rfl (x_as rfl) fun a hA => ?_
    refine fin ?_
    refine wp_ret (rt hA rfl rfl ⟨?_, rfl⟩)
    unfold stepsf
    simp
  | true =>
    refine cdt hA rfl ?_
    refine rg ?_
    refine st0 hA (wn rfl) rfl rfl (x_mv rfl) fun a hA => ?_
    refine st0 hA (wn rfl) rfl rfl (x_load rfl (hr.load1 ag3 (by omega))) fun a hA => ?_
    refine st0 hA (wn rfl) rfl rfl (x_mv rfl) fun a hA => ?_
    refine st0 hA (wn rfl) rfl rfl (x_bin rfl rfl (sub3 _ _ _ _ (by omega) (by omega))) fun a hA => ?_
    refine st0 hA (wn rfl) rfl rfl (x_blt rfl (blt_min _ _ _ _ _)) fun a hA => ?_
    refine st0 hA (wn rfl) rfl rfl (x_as rfl) fun a hA => ?_
    refine fin ?_
    refine sq ?_
    refine st0 hA (wn rfl) rfl rfl (x_mv rfl) fun a hA => ?_
    refine st0 hA (wn rfl) rfl rfl (x_as rfl) fun a hA => ?_
    refine fin ?_
    refine wp_ret (rt hA rfl rfl ⟨?_, rfl⟩)
    unfold stepsf
    simp
theorem cd_any (i j n : Int) (wr : Bool) (w : World) (hi : -1000 ≤ i ∧ i ≤ 1000) (hj : -1000 ≤ j ∧ j ≤ 1000) (hn : -1000 ≤ n ∧ n ≤ 1000) :
    Calls Yba.prog 11 #[.int .i64 i, .int .i64 j, .int .i64 n, .bool wr] w fun e w' => e = .returned (.int .i64 (stepsf i j n wr)) ∧ w' = w := by
  go_enter Yba.func11, Yba.ntmps11
  have h1 : IntKind.i64.wrap (i - j) = i - j := by rw [IntKind.wrap_i64]; omega
  have h2 : IntKind.i64.wrap (-(i - j)) = j - i := by rw [IntKind.wrap_i64]; omega
  have h3 : IntKind.i64.wrap (n - (i - j)) = n - (i - j) := by rw [IntKind.wrap_i64]; omega
  have h4 : IntKind.i64.wrap (n - (j - i)) = n - (j - i) := by rw [IntKind.wrap_i64]; omega
  cases wr
  all_goals
    go_wp2
    all_goals
      go_ret
      refine ⟨?_, rfl⟩
      unfold stepsf
      simp
      omega
end Go.Proofs.Ybulkcrtu
