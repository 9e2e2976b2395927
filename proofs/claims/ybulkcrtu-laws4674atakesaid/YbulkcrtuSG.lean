import Derived.Test.YbulkcrtuSF
import Derived.Laws.Bits64b
namespace Go.Proofs.Ybulkcrtu
open Go.RowKit

theorem cv5_28 (x : Int) (h0 : 0 ≤ x) (h1 : x ≤ 255) : Cnv 5 28 (.int .u8 x) (.int .u64 x) := fun w => by
  simp [go_sem]
  rw [IntKind.wrap_u64]
  omega
theorem cv28_5 (x : Int) : Cnv 28 5 (.int .u64 x) (.int .u8 (x % 256)) := fun w => by
  simp [go_sem]
  rw [IntKind.wrap_u8]
theorem shl28 (a b : Operand) (n : Int) (h : n = 8 ∨ n = 16 ∨ n = 24 ∨ n = 32 ∨ n = 40 ∨ n = 48 ∨ n = 56) : Bin .shl 28 a b (.int .u64 0) (.int .u64 n) (.int .u64 0) := fun w => by
  rcases h with rfl | rfl | rfl | rfl | rfl | rfl | rfl <;> kernel_rfl
theorem or28 (a b : Operand) (x : Int) (h0 : 0 ≤ x) (h1 : x ≤ 255) : Bin .or 28 a b (.int .u64 x) (.int .u64 0) (.int .u64 x) := fun w => by
  simp [go_sem, eqGuard]
  obtain ⟨n, rfl⟩ := Int.eq_ofNat_of_zero_le h0
  have := bits_or_u64_nat n 0 (by omega) (by omega)
  simpa using this

theorem shr28_56 (a b : Operand) (x : Int) : Bin .shr 28 a b (.int .u64 x) (.int .u64 56) (.int .u64 (x / 72057594037927936)) := fun w => by simp [go_sem, eqGuard]
theorem shr28_48 (a b : Operand) (x : Int) : Bin .shr 28 a b (.int .u64 x) (.int .u64 48) (.int .u64 (x / 281474976710656)) := fun w => by simp [go_sem, eqGuard]
theorem shr28_40 (a b : Operand) (x : Int) : Bin .shr 28 a b (.int .u64 x) (.int .u64 40) (.int .u64 (x / 1099511627776)) := fun w => by simp [go_sem, eqGuard]
theorem shr28_32 (a b : Operand) (x : Int) : Bin .shr 28 a b (.int .u64 x) (.int .u64 32) (.int .u64 (x / 4294967296)) := fun w => by simp [go_sem, eqGuard]
theorem shr28_24 (a b : Operand) (x : Int) : Bin .shr 28 a b (.int .u64 x) (.int .u64 24) (.int .u64 (x / 16777216)) := fun w => by simp [go_sem, eqGuard]
theorem shr28_16 (a b : Operand) (x : Int) : Bin .shr 28 a b (.int .u64 x) (.int .u64 16) (.int .u64 (x / 65536)) := fun w => by simp [go_sem, eqGuard]
theorem shr28_8 (a b : Operand) (x : Int) : Bin .shr 28 a b (.int .u64 x) (.int .u64 8) (.int .u64 (x / 256)) := fun w => by simp [go_sem, eqGuard]
theorem c50 : Callable 50 := ⟨_, Yba.func50, by kernel_rfl, rfl⟩
theorem c51 : Callable 51 := ⟨_, Yba.func51, by kernel_rfl, rfl⟩
/-- Eight bytes, the last of them x, the others 0. -/
def Low8 (w : World) (b o : Nat) (x : Int) : Prop := (∀ j, j < 7 → w.cell? ⟨b, o + j, none⟩ = some (.int .u8 0)) ∧ w.cell? ⟨b, o + 7, none⟩ = some (.int .u8 x)
theorem Low8.below {w w' : World} {b o : Nat} {x : Int} (h : Low8 w b o x) {B : Nat} (hb : Below B w w') (hB : b < B) : Low8 w' b o x :=
  ⟨fun j hj => by rw [hb.cell hB]; exact h.1 j hj, by rw [hb.cell hB]; exact h.2⟩
theorem Low8.lt {w : World} {b o : Nat} {x : Int} (h : Low8 w b o x) : b < w.heap.size := World.block_lt_of_cell? w _ h.2
set_option maxRecDepth 100000 in
theorem uint64_any (b o n c : Nat) (x : Int) (w : World) (h0 : 0 ≤ x) (h1 : x ≤ 255) (hn : 8 ≤ n) (hl : Low8 w b o x) :
    Calls Yba.prog 50 #[.agg [].toArray, .slice (some ⟨b, o, none⟩) n c] w fun e w' => e = .returned (.int .u64 x) ∧ Below w.heap.size w w' := by
  refine enter (args := [.agg [].toArray, .slice (some ⟨b, o, none⟩) n c]) Yba.func50 rfl 54 Yba.ntmps50 rfl fun a hA => ?_
  refine sq ?_
  refine st hA (wn rfl) rfl rfl (x_box rfl (mk_box _ _)) fun a w1 hA m1 => ?_
  refine st0 hA (wn rfl) rfl rfl (x_as rfl) fun a hA => ?_
  refine fin ?_
  have hl1 := hl.below m1.1 hl.lt
  refine sq ?_
  refine st0 hA (wn rfl) rfl rfl (x_mv rfl) fun a hA => ?_
  refine st0 hA (wn rfl) rfl rfl (x_idx rfl rfl (idxS _ _ _ _ 7 _ Yba.underlying165 sz5 (by omega))) fun a hA => ?_
  refine st0 hA (wn rfl) rfl rfl (x_load rfl (load_cell ag5 _ _ _ hl1.2)) fun a hA => ?_
  refine fin ?_
  have hd : Low8 w1.drew b o x := hl1
  refine wp_seq ?_
  refine drawn_keep [.slice (some ⟨b, o, none⟩) n c, .pointer (some ⟨b, o + 7, none⟩), .int .u8 x, .int .u64 x, .slice (some ⟨b, o, none⟩) n c, .pointer (some ⟨b, o + 6, none⟩), .int .u8 0, .int .u64 0, .int .u64 0, .int .u64 x, .slice (some ⟨b, o, none⟩) n c, .pointer (some ⟨b, o + 5, none⟩), .int .u8 0, .int .u64 0, .int .u64 0, .int .u64 x, .slice (some ⟨b, o, none⟩) n c, .pointer (some ⟨b, o + 4, none⟩), .int .u8 0, .int .u64 0, .int .u64 0, .int .u64 x, .slice (some ⟨b, o, none⟩) n c, .pointer (some ⟨b, o + 3, none⟩), .int .u8 0, .int .u64 0, .int .u64 0, .int .u64 x, .slice (some ⟨b, o, none⟩) n c, .pointer (some ⟨b, o + 2, none⟩), .int .u8 0, .int .u64 0, .int .u64 0, .int .u64 x, .slice (some ⟨b, o, none⟩) n c, .pointer (some ⟨b, o + 1, none⟩), .int .u8 0, .int .u64 0, .int .u64 0, .int .u64 x, .slice (some ⟨b, o, none⟩) n c, .pointer (some ⟨b, o + 0, none⟩), .int .u8 0, .int .u64 0, .int .u64 0, .int .u64 x, .int .u64 x] (· = w1.drew) (hA.pick [1]) mixed rfl rfl ?_ ?_
  · refine each_cons (do0 rfl [] rfl (wn rfl) fun w hS => (x_mv rfl)) ?_
    refine each_cons (do0 rfl [(8, 0)] rfl (wn rfl) fun w hS => (x_idx rfl rfl (idxS _ _ _ _ 7 _ Yba.underlying165 sz5 (by omega)))) ?_
    refine each_cons (do0 rfl [(9, 1)] rfl (wn rfl) fun w hS => (x_load rfl (by subst hS; exact load_cell ag5 _ _ _ hd.2))) ?_
    refine each_cons (do0 rfl [(10, 2)] rfl (wn rfl) fun w hS => (x_cv rfl (cv5_28 _ h0 h1))) ?_
    refine each_cons (do0 rfl [] rfl (wn rfl) fun w hS => (x_mv rfl)) ?_
    refine each_cons (do0 rfl [(12, 4)] rfl (wn rfl) fun w hS => (x_idx rfl rfl (idxS _ _ _ _ 6 _ Yba.underlying165 sz5 (by omega)))) ?_
    refine each_cons (do0 rfl [(13, 5)] rfl (wn rfl) fun w hS => (x_load rfl (by subst hS; exact load_cell ag5 _ _ _ (hd.1 6 (by omega))))) ?_
    refine each_cons (do0 rfl [(14, 6)] rfl (wn rfl) fun w hS => (x_cv rfl (cv5_28 _ (by omega) (by omega)))) ?_
    refine each_cons (do0 rfl [(15, 7)] rfl (wn rfl) fun w hS => (x_bin rfl rfl (shl28 _ _ 8 (by omega)))) ?_
    refine each_cons (do0 rfl [(11, 3), (16, 8)] rfl (wn rfl) fun w hS => (x_bin rfl rfl (or28 _ _ _ h0 h1))) ?_
    refine each_cons (do0 rfl [] rfl (wn rfl) fun w hS => (x_mv rfl)) ?_
    refine each_cons (do0 rfl [(18, 10)] rfl (wn rfl) fun w hS => (x_idx rfl rfl (idxS _ _ _ _ 5 _ Yba.underlying165 sz5 (by omega)))) ?_
    refine each_cons (do0 rfl [(19, 11)] rfl (wn rfl) fun w hS => (x_load rfl (by subst hS; exact load_cell ag5 _ _ _ (hd.1 5 (by omega))))) ?_
    refine each_cons (do0 rfl [(20, 12)] rfl (wn rfl) fun w hS => (x_cv rfl (cv5_28 _ (by omega) (by omega)))) ?_
    refine each_cons (do0 rfl [(21, 13)] rfl (wn rfl) fun w hS => (x_bin rfl rfl (shl28 _ _ 16 (by omega)))) ?_
    refine each_cons (do0 rfl [(17, 9), (22, 14)] rfl (wn rfl) fun w hS => (x_bin rfl rfl (or28 _ _ _ h0 h1))) ?_
    refine each_cons (do0 rfl [] rfl (wn rfl) fun w hS => (x_mv rfl)) ?_
    refine each_cons (do0 rfl [(24, 16)] rfl (wn rfl) fun w hS => (x_idx rfl rfl (idxS _ _ _ _ 4 _ Yba.underlying165 sz5 (by omega)))) ?_
    refine each_cons (do0 rfl [(25, 17)] rfl (wn rfl) fun w hS => (x_load rfl (by subst hS; exact load_cell ag5 _ _ _ (hd.1 4 (by omega))))) ?_
    refine each_cons (do0 rfl [(26, 18)] rfl (wn rfl) fun w hS => (x_cv rfl (cv5_28 _ (by omega) (by omega)))) ?_
    refine each_cons (do0 rfl [(27, 19)] rfl (wn rfl) fun w hS => (x_bin rfl rfl (shl28 _ _ 24 (by omega)))) ?_
    refine each_cons (do0 rfl [(23, 15), (28, 20)] rfl (wn rfl) fun w hS => (x_bin rfl rfl (or28 _ _ _ h0 h1))) ?_
    refine each_cons (do0 rfl [] rfl (wn rfl) fun w hS => (x_mv rfl)) ?_
    refine each_cons (do0 rfl [(30, 22)] rfl (wn rfl) fun w hS => (x_idx rfl rfl (idxS _ _ _ _ 3 _ Yba.underlying165 sz5 (by omega)))) ?_
    refine each_cons (do0 rfl [(31, 23)] rfl (wn rfl) fun w hS => (x_load rfl (by subst hS; exact load_cell ag5 _ _ _ (hd.1 3 (by omega))))) ?_
    refine each_cons (do0 rfl [(32, 24)] rfl (wn rfl) fun w hS => (x_cv rfl (cv5_28 _ (by omega) (by omega)))) ?_
    refine each_cons (do0 rfl [(33, 25)] rfl (wn rfl) fun w hS => (x_bin rfl rfl (shl28 _ _ 32 (by omega)))) ?_
    refine each_cons (do0 rfl [(29, 21), (34, 26)] rfl (wn rfl) fun w hS => (x_bin rfl rfl (or28 _ _ _ h0 h1))) ?_
    refine each_cons (do0 rfl [] rfl (wn rfl) fun w hS => (x_mv rfl)) ?_
    refine each_cons (do0 rfl [(36, 28)] rfl (wn rfl) fun w hS => (x_idx rfl rfl (idxS _ _ _ _ 2 _ Yba.underlying165 sz5 (by omega)))) ?_
    refine each_cons (do0 rfl [(37, 29)] rfl (wn rfl) fun w hS => (x_load rfl (by subst hS; exact load_cell ag5 _ _ _ (hd.1 2 (by omega))))) ?_
    refine each_cons (do0 rfl [(38, 30)] rfl (wn rfl) fun w hS => (x_cv rfl (cv5_28 _ (by omega) (by omega)))) ?_
    refine each_cons (do0 rfl [(39, 31)] rfl (wn rfl) fun w hS => (x_bin rfl rfl (shl28 _ _ 40 (by omega)))) ?_
    refine each_cons (do0 rfl [(35, 27), (40, 32)] rfl (wn rfl) fun w hS => (x_bin rfl rfl (or28 _ _ _ h0 h1))) ?_
    refine each_cons (do0 rfl [] rfl (wn rfl) fun w hS => (x_mv rfl)) ?_
    refine each_cons (do0 rfl [(42, 34)] rfl (wn rfl) fun w hS => (x_idx rfl rfl (idxS _ _ _ _ 1 _ Yba.underlying165 sz5 (by omega)))) ?_
    refine each_cons (do0 rfl [(43, 35)] rfl (wn rfl) fun w hS => (x_load rfl (by subst hS; exact load_cell ag5 _ _ _ (hd.1 1 (by omega))))) ?_
    refine each_cons (do0 rfl [(44, 36)] rfl (wn rfl) fun w hS => (x_cv rfl (cv5_28 _ (by omega) (by omega)))) ?_
    refine each_cons (do0 rfl [(45, 37)] rfl (wn rfl) fun w hS => (x_bin rfl rfl (shl28 _ _ 48 (by omega)))) ?_
    refine each_cons (do0 rfl [(41, 33), (46, 38)] rfl (wn rfl) fun w hS => (x_bin rfl rfl (or28 _ _ _ h0 h1))) ?_
    refine each_cons (do0 rfl [] rfl (wn rfl) fun w hS => (x_mv rfl)) ?_
    refine each_cons (do0 rfl [(48, 40)] rfl (wn rfl) fun w hS => (x_idx rfl rfl (idxS _ _ _ _ 0 _ Yba.underlying165 sz5 (by omega)))) ?_
    refine each_cons (do0 rfl [(49, 41)] rfl (wn rfl) fun w hS => (x_load rfl (by subst hS; exact load_cell ag5 _ _ _ (hd.1 0 (by omega))))) ?_
    refine each_cons (do0 rfl [(50, 42)] rfl (wn rfl) fun w hS => (x_cv rfl (cv5_28 _ (by omega) (by omega)))) ?_
    refine each_cons (do0 rfl [(51, 43)] rfl (wn rfl) fun w hS => (x_bin rfl rfl (shl28 _ _ 56 (by omega)))) ?_
    refine each_cons (do0 rfl [(47, 39), (52, 44)] rfl (wn rfl) fun w hS => (x_bin rfl rfl (or28 _ _ _ h0 h1))) ?_
    refine each_cons (do0 rfl [(53, 45)] rfl (wn rfl) fun w hS => (x_as rfl)) ?_
    exact each_nil
  · intro a w' hA hS
    subst hS
    refine wp_ret (rt hA rfl rfl ⟨rfl, m1.1.drew⟩)
/-- The bytes of h h h h h h h x. -/
def wordOf (h x : Int) : Int := h * 72340172838076672 + x
set_option maxRecDepth 100000 in
theorem put64_any (b o n c t sz : Nat) (g : Nat → Value) (h x : Int) (w : World) (hh : h = 0 ∨ h = 255) (h0 : 0 ≤ x) (h1 : x ≤ 255) (hn : 8 ≤ n) (hs : o + 8 ≤ sz) (hr : Row w b t sz g) (hg : ∃ v, g (o + 7) = .int .u8 v) :
    Calls Yba.prog 51 #[.agg [].toArray, .slice (some ⟨b, o, none⟩) n c, .int .u64 (wordOf h x)] w fun e w' => e = .returned (.tuple #[]) ∧ w'.heap.size = w.heap.size + 1 ∧ (∀ k, k < w.heap.size → k ≠ b → w'.heap[k]? = w.heap[k]?) ∧ w'.os = w.os ∧ w'.tape = w.tape ∧ w'.output = w.output ∧
      Row w' b t sz (fun i => if o ≤ i ∧ i < o + 7 then .int .u8 h else if i = o + 7 then .int .u8 x else g i) := by
  have hW0 : 0 ≤ wordOf h x := by unfold wordOf; omega
  refine enter (args := [.agg [].toArray, .slice (some ⟨b, o, none⟩) n c, .int .u64 (wordOf h x)]) Yba.func51 rfl 48 Yba.ntmps51 rfl fun a hA => ?_
  refine sq ?_
  refine st hA (wn rfl) rfl rfl (x_box rfl (mk_box _ _)) fun a w0 hA m1 => ?_
  refine fin ?_
  have hr0 := hr.below m1.1 hr.lt
  have hbs := hr.lt
  refine sq ?_
  refine st0 hA (wn rfl) rfl rfl (x_mv rfl) fun a hA => ?_
  refine st0 hA (wn rfl) rfl rfl (x_idx rfl rfl (idxS _ _ _ _ 7 _ Yba.underlying165 sz5 (by omega))) fun a hA => ?_
  refine st0 hA (wn rfl) rfl rfl (x_load rfl (hr0.load1 ag5 (by omega))) fun a hA => ?_
  refine fin ?_
  refine sq ?_
  refine st0 hA (wn rfl) rfl rfl (x_mv rfl) fun a hA => ?_
  refine st0 hA (wn rfl) rfl rfl (x_mv rfl) fun a hA => ?_
  refine st0 hA (wn rfl) rfl rfl (x_bin rfl rfl (shr28_56 _ _ _)) fun a hA => ?_
  refine st0 hA (wn rfl) rfl rfl (x_cv rfl (cv28_5 _)) fun a hA => ?_
  refine st0 hA (wn rfl) rfl rfl (x_idx rfl rfl (idxS _ _ _ _ 0 _ Yba.underlying165 sz5 (by omega))) fun a hA => ?_
  refine stn hA (wn rfl) rfl (x_store rfl rfl (hr0.store1 _ sz5 rfl (by omega))) fun w1 ⟨u1, hr1⟩ => ?_
  refine fin ?_
  refine sq ?_
  refine st0 hA (wn rfl) rfl rfl (x_mv rfl) fun a hA => ?_
  refine st0 hA (wn rfl) rfl rfl (x_mv rfl) fun a hA => ?_
  refine st0 hA (wn rfl) rfl rfl (x_bin rfl rfl (shr28_48 _ _ _)) fun a hA => ?_
  refine st0 hA (wn rfl) rfl rfl (x_cv rfl (cv28_5 _)) fun a hA => ?_
  refine st0 hA (wn rfl) rfl rfl (x_idx rfl rfl (idxS _ _ _ _ 1 _ Yba.underlying165 sz5 (by omega))) fun a hA => ?_
  refine stn hA (wn rfl) rfl (x_store rfl rfl (hr1.store1 _ sz5 rfl (by omega))) fun w2 ⟨u2, hr2⟩ => ?_
  refine fin ?_
  refine sq ?_
  refine st0 hA (wn rfl) rfl rfl (x_mv rfl) fun a hA => ?_
  refine st0 hA (wn rfl) rfl rfl (x_mv rfl) fun a hA => ?_
  refine st0 hA (wn rfl) rfl rfl (x_bin rfl rfl (shr28_40 _ _ _)) fun a hA => ?_
  refine st0 hA (wn rfl) rfl rfl (x_cv rfl (cv28_5 _)) fun a hA => ?_
  refine st0 hA (wn rfl) rfl rfl (x_idx rfl rfl (idxS _ _ _ _ 2 _ Yba.underlying165 sz5 (by omega))) fun a hA => ?_
  refine stn hA (wn rfl) rfl (x_store rfl rfl (hr2.store1 _ sz5 rfl (by omega))) fun w3 ⟨u3, hr3⟩ => ?_
  refine fin ?_
  refine sq ?_
  refine st0 hA (wn rfl) rfl rfl (x_mv rfl) fun a hA => ?_
  refine st0 hA (wn rfl) rfl rfl (x_mv rfl) fun a hA => ?_
  refine st0 hA (wn rfl) rfl rfl (x_bin rfl rfl (shr28_32 _ _ _)) fun a hA => ?_
  refine st0 hA (wn rfl) rfl rfl (x_cv rfl (cv28_5 _)) fun a hA => ?_
  refine st0 hA (wn rfl) rfl rfl (x_idx rfl rfl (idxS _ _ _ _ 3 _ Yba.underlying165 sz5 (by omega))) fun a hA => ?_
  refine stn hA (wn rfl) rfl (x_store rfl rfl (hr3.store1 _ sz5 rfl (by omega))) fun w4 ⟨u4, hr4⟩ => ?_
  refine fin ?_
  refine sq ?_
  refine st0 hA (wn rfl) rfl rfl (x_mv rfl) fun a hA => ?_
  refine st0 hA (wn rfl) rfl rfl (x_mv rfl) fun a hA => ?_
  refine st0 hA (wn rfl) rfl rfl (x_bin rfl rfl (shr28_24 _ _ _)) fun a hA => ?_
  refine st0 hA (wn rfl) rfl rfl (x_cv rfl (cv28_5 _)) fun a hA => ?_
  refine st0 hA (wn rfl) rfl rfl (x_idx rfl rfl (idxS _ _ _ _ 4 _ Yba.underlying165 sz5 (by omega))) fun a hA => ?_
  refine stn hA (wn rfl) rfl (x_store rfl rfl (hr4.store1 _ sz5 rfl (by omega))) fun w5 ⟨u5, hr5⟩ => ?_
  refine fin ?_
  refine sq ?_
  refine st0 hA (wn rfl) rfl rfl (x_mv rfl) fun a hA => ?_
  refine st0 hA (wn rfl) rfl rfl (x_mv rfl) fun a hA => ?_
  refine st0 hA (wn rfl) rfl rfl (x_bin rfl rfl (shr28_16 _ _ _)) fun a hA => ?_
  refine st0 hA (wn rfl) rfl rfl (x_cv rfl (cv28_5 _)) fun a hA => ?_
  refine st0 hA (wn rfl) rfl rfl (x_idx rfl rfl (idxS _ _ _ _ 5 _ Yba.underlying165 sz5 (by omega))) fun a hA => ?_
  refine stn hA (wn rfl) rfl (x_store rfl rfl (hr5.store1 _ sz5 rfl (by omega))) fun w6 ⟨u6, hr6⟩ => ?_
  refine fin ?_
  refine sq ?_
  refine st0 hA (wn rfl) rfl rfl (x_mv rfl) fun a hA => ?_
  refine st0 hA (wn rfl) rfl rfl (x_mv rfl) fun a hA => ?_
  refine st0 hA (wn rfl) rfl rfl (x_bin rfl rfl (shr28_8 _ _ _)) fun a hA => ?_
  refine st0 hA (wn rfl) rfl rfl (x_cv rfl (cv28_5 _)) fun a hA => ?_
  refine st0 hA (wn rfl) rfl rfl (x_idx rfl rfl (idxS _ _ _ _ 6 _ Yba.underlying165 sz5 (by omega))) fun a hA => ?_
  refine stn hA (wn rfl) rfl (x_store rfl rfl (hr6.store1 _ sz5 rfl (by omega))) fun w7 ⟨u7, hr7⟩ => ?_
  refine fin ?_
  refine rg ?_
  refine st0 hA (wn rfl) rfl rfl (x_mv rfl) fun a hA => ?_
  refine st0 hA (wn rfl) rfl rfl (x_mv rfl) fun a hA => ?_
  refine st0 hA (wn rfl) rfl rfl (x_cv rfl (cv28_5 _)) fun a hA => ?_
  refine st0 hA (wn rfl) rfl rfl (x_idx rfl rfl (idxS _ _ _ _ 7 _ Yba.underlying165 sz5 (by omega))) fun a hA => ?_
  refine stn hA (wn rfl) rfl (x_store rfl rfl (hr7.store1 _ sz5 rfl (by omega))) fun w8 ⟨u8, hr8⟩ => ?_
  refine fin0 ?_
  have hup := (((((((u1.trans u2).trans u3).trans u4).trans u5).trans u6).trans u7).trans u8)
  refine rte hA rfl ⟨rfl, by rw [hup.size, m1.2.1], fun k hk hkb => by rw [hup.block k hkb, m1.1.block k hk], hup.os.trans m1.1.os, hup.tape.trans m1.1.tape, hup.output.trans m1.1.output, hr8.ext fun i hi => ?_⟩
  have e0 : wordOf h x / 72057594037927936 % 256 = h := by unfold wordOf; omega
  have e1 : wordOf h x / 281474976710656 % 256 = h := by unfold wordOf; omega
  have e2 : wordOf h x / 1099511627776 % 256 = h := by unfold wordOf; omega
  have e3 : wordOf h x / 4294967296 % 256 = h := by unfold wordOf; omega
  have e4 : wordOf h x / 16777216 % 256 = h := by unfold wordOf; omega
  have e5 : wordOf h x / 65536 % 256 = h := by unfold wordOf; omega
  have e6 : wordOf h x / 256 % 256 = h := by unfold wordOf; omega
  have e7 : wordOf h x % 256 = x := by unfold wordOf; omega
  rw [e0, e1, e2, e3, e4, e5, e6, e7]
  by_cases c : o ≤ i ∧ i < o + 7
  · rw [if_pos c]
    have hh : i = o + 0 ∨ i = o + 1 ∨ i = o + 2 ∨ i = o + 3 ∨ i = o + 4 ∨ i = o + 5 ∨ i = o + 6 := by omega
    rcases hh with rfl | rfl | rfl | rfl | rfl | rfl | rfl <;> simp
  · rw [if_neg c]
    by_cases c7 : i = o + 7
    · subst c7
      simp
    · rw [if_neg c7]
      have hne : i ≠ o ∧ i ≠ o + 1 ∧ i ≠ o + 2 ∧ i ≠ o + 3 ∧ i ≠ o + 4 ∧ i ≠ o + 5 ∧ i ≠ o + 6 := by omega
      simp [hne, c7]
end Go.Proofs.Ybulkcrtu
