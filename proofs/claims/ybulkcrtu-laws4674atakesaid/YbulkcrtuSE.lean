import Derived.Test.YbulkcrtuSD
namespace Go.Proofs.Ybulkcrtu
open Go.RowKit

theorem each_cons {p : Nat → Prop} {i n : Nat} (h : p i) (r : Each p (i + 1) n) : Each p i (n + 1) := ⟨h, r⟩
theorem each_nil {p : Nat → Prop} {i : Nat} : Each p i 0 := trivial
section
variable {ops : List Oper} {vals : List Value} {l0 : List (Nat × Value)} {S S' : World → Prop} {i : Nat} {o : Oper}
/-- It leaves the world. -/
theorem do0 (ho : ops[i]? = some o) (ks : List (Nat × Nat)) (hck : ckDeps ops i ks = true) (hw : Wants ops.toArray (kn vals ks l0) o) (hgo : ∀ w, S w → Goes (kn vals ks l0) o w (vals.getD i undef) (· = w)) : Do ops vals l0 S S i := fun w hS o' ho' => by
  rw [ho] at ho'
  obtain rfl := Option.some.inj ho'
  refine ⟨ks, hck, .inl ⟨hw, fun a N hA K Q hK => hgo w hS a N hA K Q fun w' hw' => hK w' ?_⟩⟩
  subst hw'
  exact hS
theorem do1 (ho : ops[i]? = some o) (ks : List (Nat × Nat)) (hck : ckDeps ops i ks = true) (hw : Wants ops.toArray (kn vals ks l0) o) (hgo : ∀ w, S w → Goes (kn vals ks l0) o w (vals.getD i undef) S') : Do ops vals l0 S S' i := fun w hS o' ho' => by
  rw [ho] at ho'
  obtain rfl := Option.some.inj ho'
  exact ⟨ks, hck, .inl ⟨hw, hgo w hS⟩⟩
theorem dos (ho : ops[i]? = some o) (ks : List (Nat × Nat)) (hck : ckDeps ops i ks = true) (hw : Shuns ops.toArray (kn vals ks l0) o) (hv : vals.getD i undef = undef) : Do ops vals l0 S S i := fun w hS o' ho' => by
  rw [ho] at ho'
  obtain rfl := Option.some.inj ho'
  exact ⟨ks, hck, .inr ⟨hw, hv, hS⟩⟩
end
theorem c19 : Callable 19 := ⟨_, Yba.func19, by kernel_rfl, rfl⟩
theorem c20 : Callable 20 := ⟨_, Yba.func20, by kernel_rfl, rfl⟩
theorem c21 : Callable 21 := ⟨_, Yba.func21, by kernel_rfl, rfl⟩
theorem c37 : Callable 37 := ⟨_, Yba.func37, by kernel_rfl, rfl⟩
/-- The pair at i is vouched for by the key at o. -/
def near (i o n : Int) (wr : Bool) : Bool := decide (stepsf i o n wr ≤ 2) && decide (stepsf ((i + 1) % n) o n wr ≤ 2)
def stepV (bw bn : Nat) : Value := .func (.func 19) #[] #[.pointer (some ⟨bw, 0, none⟩), .pointer (some ⟨bn, 0, none⟩)]
set_option maxRecDepth 100000 in
theorem near_any (i o n : Int) (wr : Bool) (bs bi bw bn : Nat) (w : World) (hi : 0 ≤ i ∧ i ≤ 500) (hj : 0 ≤ o ∧ o ≤ 500) (hn : 1 ≤ n ∧ n ≤ 500)
    (hs : Row w bs 126 1 (fun _ => stepV bw bn)) (hri : Row w bi 3 1 (fun _ => .int .i64 i)) (hw : Row w bw 4 1 (fun _ => .bool wr)) (hr : Row w bn 3 1 (fun _ => .int .i64 n)) :
    Calls Yba.prog 21 #[.int .i64 o, .pointer (some ⟨bs, 0, none⟩), .pointer (some ⟨bi, 0, none⟩), .pointer (some ⟨bn, 0, none⟩)] w fun e w' => e = .returned (.bool (near i o n wr)) ∧ Below w.heap.size w w' := by
  refine enter (args := [.int .i64 o, .pointer (some ⟨bs, 0, none⟩), .pointer (some ⟨bi, 0, none⟩), .pointer (some ⟨bn, 0, none⟩)]) Yba.func21 rfl 21 Yba.ntmps21 rfl fun a hA => ?_
  refine sq ?_
  refine st0 hA (wn rfl) rfl rfl (x_as rfl) fun a hA => ?_
  refine fin ?_
  have hd1 : Row w.drew bs 126 1 (fun _ => stepV bw bn) := hs
  have hd2 : Row w.drew bi 3 1 (fun _ => .int .i64 i) := hri
  have hd3 : Row w.drew bw 4 1 (fun _ => .bool wr) := hw
  have hd4 : Row w.drew bn 3 1 (fun _ => .int .i64 n) := hr
  have hc1 := steps_any i o n wr bw bn w.drew (by omega) (by omega) (by omega) hd3 hd4
  have hm : 0 ≤ (i + 1) % n ∧ (i + 1) % n ≤ 1000 := ⟨Int.emod_nonneg _ (by omega), by have := Int.emod_lt_of_pos (i + 1) (b := n) (by omega); omega⟩
  have hc2 := steps_any ((i + 1) % n) o n wr bw bn w.drew (by omega) (by omega) (by omega) hd3 hd4
  refine wp_seq ?_
  by_cases h1 : stepsf i o n wr ≤ 2
  · refine drawn_keep [stepV bw bn, .int .i64 i, .int .i64 o, .int .i64 (stepsf i o n wr), .bool true, .bool true, stepV bw bn, .int .i64 i, .int .i64 (i + 1), .int .i64 n, .int .i64 ((i + 1) % n), .int .i64 o, .int .i64 (stepsf ((i + 1) % n) o n wr), .bool (decide (stepsf ((i + 1) % n) o n wr ≤ 2)), .bool (decide (stepsf ((i + 1) % n) o n wr ≤ 2)), .bool (decide (stepsf ((i + 1) % n) o n wr ≤ 2))] (· = w.drew) (hA.pick [0, 1, 2, 3]) mixed rfl rfl ?_ ?_
    · refine each_cons (do0 rfl [] rfl (wn rfl) fun w hS => (x_load rfl (by subst hS; exact hd1.load1 ag126 (by omega)))) ?_
      refine each_cons (do0 rfl [] rfl (wn rfl) fun w hS => (x_load rfl (by subst hS; exact hd2.load1 ag3 (by omega)))) ?_
      refine each_cons (do0 rfl [] rfl (wn rfl) fun w hS => (x_mv rfl)) ?_
      refine each_cons (do1 rfl [(6, 0), (7, 1), (8, 2)] rfl (wn rfl) fun w hS => (x_call (cap := [.pointer (some ⟨bw, 0, none⟩), .pointer (some ⟨bn, 0, none⟩)]) rfl rfl c19 (by subst hS; exact hc1))) ?_
      refine each_cons (do0 rfl [(9, 3)] rfl (wn rfl) fun w hS => (x_bin rfl rfl (leq3T _ _ _ _ h1))) ?_
      refine each_cons (do0 rfl [(10, 4)] rfl (wn rfl) fun w hS => (x_mv rfl)) ?_
      refine each_cons (do0 rfl [(11, 5)] rfl (wy rfl rfl rfl) fun w hS => (x_load rfl (by subst hS; exact hd1.load1 ag126 (by omega)))) ?_
      refine each_cons (do0 rfl [(11, 5)] rfl (wy rfl rfl rfl) fun w hS => (x_load rfl (by subst hS; exact hd2.load1 ag3 (by omega)))) ?_
      refine each_cons (do0 rfl [(13, 7), (11, 5)] rfl (wy rfl rfl rfl) fun w hS => (x_bin rfl rfl (add3 _ _ _ _ (by omega) (by omega)))) ?_
      refine each_cons (do0 rfl [(11, 5)] rfl (wy rfl rfl rfl) fun w hS => (x_load rfl (by subst hS; exact hd4.load1 ag3 (by omega)))) ?_
      refine each_cons (do0 rfl [(14, 8), (15, 9), (11, 5)] rfl (wy rfl rfl rfl) fun w hS => (x_bin rfl rfl (rem3 _ _ _ _ (by omega) (by omega)))) ?_
      refine each_cons (do0 rfl [(11, 5)] rfl (wy rfl rfl rfl) fun w hS => (x_mv rfl)) ?_
      refine each_cons (do1 rfl [(12, 6), (16, 10), (17, 11), (11, 5)] rfl (wy rfl rfl rfl) fun w hS => (x_call (cap := [.pointer (some ⟨bw, 0, none⟩), .pointer (some ⟨bn, 0, none⟩)]) rfl rfl c19 (by subst hS; exact hc2))) ?_
      refine each_cons (do0 rfl [(18, 12), (11, 5)] rfl (wy rfl rfl rfl) fun w hS => (x_bin rfl rfl (leq3 _ _ _ _))) ?_
      refine each_cons (do0 rfl [(11, 5), (19, 13)] rfl (wn rfl) fun w hS => (x_pick rfl rfl)) ?_
      refine each_cons (do0 rfl [(20, 14)] rfl (wn rfl) fun w hS => (x_as rfl)) ?_
      exact each_nil
    · intro a w' hA hS
      subst hS
      refine wp_ret (rt hA rfl rfl ⟨?_, (Below.refl _ _).drew⟩)
      unfold near
      rw [decide_eq_true h1, Bool.true_and]
  · refine drawn_keep [stepV bw bn, .int .i64 i, .int .i64 o, .int .i64 (stepsf i o n wr), .bool false, .bool false, undef, undef, undef, undef, undef, undef, undef, undef, .bool false, .bool false] (· = w.drew) (hA.pick [0, 1, 2, 3]) mixed rfl rfl ?_ ?_
    · refine each_cons (do0 rfl [] rfl (wn rfl) fun w hS => (x_load rfl (by subst hS; exact hd1.load1 ag126 (by omega)))) ?_
      refine each_cons (do0 rfl [] rfl (wn rfl) fun w hS => (x_load rfl (by subst hS; exact hd2.load1 ag3 (by omega)))) ?_
      refine each_cons (do0 rfl [] rfl (wn rfl) fun w hS => (x_mv rfl)) ?_
      refine each_cons (do1 rfl [(6, 0), (7, 1), (8, 2)] rfl (wn rfl) fun w hS => (x_call (cap := [.pointer (some ⟨bw, 0, none⟩), .pointer (some ⟨bn, 0, none⟩)]) rfl rfl c19 (by subst hS; exact hc1))) ?_
      refine each_cons (do0 rfl [(9, 3)] rfl (wn rfl) fun w hS => (x_bin rfl rfl (leq3F _ _ _ _ h1))) ?_
      refine each_cons (do0 rfl [(10, 4)] rfl (wn rfl) fun w hS => (x_mv rfl)) ?_
      refine each_cons (dos rfl [(11, 5)] rfl (sh rfl rfl rfl rfl) rfl) ?_
      refine each_cons (dos rfl [(11, 5)] rfl (sh rfl rfl rfl rfl) rfl) ?_
      refine each_cons (dos rfl [(11, 5)] rfl (sh rfl rfl rfl rfl) rfl) ?_
      refine each_cons (dos rfl [(11, 5)] rfl (sh rfl rfl rfl rfl) rfl) ?_
      refine each_cons (dos rfl [(11, 5)] rfl (sh rfl rfl rfl rfl) rfl) ?_
      refine each_cons (dos rfl [(11, 5)] rfl (sh rfl rfl rfl rfl) rfl) ?_
      refine each_cons (dos rfl [(11, 5)] rfl (sh rfl rfl rfl rfl) rfl) ?_
      refine each_cons (dos rfl [(11, 5)] rfl (sh rfl rfl rfl rfl) rfl) ?_
      refine each_cons (do0 rfl [(11, 5)] rfl (wn rfl) fun w hS => (x_pick rfl rfl)) ?_
      refine each_cons (do0 rfl [(20, 14)] rfl (wn rfl) fun w hS => (x_as rfl)) ?_
      exact each_nil
    · intro a w' hA hS
      subst hS
      refine wp_ret (rt hA rfl rfl ⟨?_, (Below.refl _ _).drew⟩)
      unfold near
      rw [decide_eq_false h1, Bool.false_and]
end Go.Proofs.Ybulkcrtu
