import Derived.Test.YbulkcrycB
namespace Go.Proofs.Ybulkcryc
open Go.RowKit

/-- The places below k at which g stands. -/
def ix (ks : Nat → Nat) (g : Nat) : Nat → List Nat
  | 0 => []
  | k + 1 => ix ks g k ++ if ks k = g then [k] else []
theorem ix_len (ks : Nat → Nat) (g : Nat) : ∀ k, (ix ks g k).length ≤ k
  | 0 => Nat.le_refl _
  | k + 1 => by
    have := ix_len ks g k
    unfold ix
    split <;> simp <;> omega
/-- A slice of bytes that came in: the numbers modulo 4. -/
def KArg (w : World) (a : Option Addr) (n : Nat) (z : Nat → Int) : Prop :=
  n = 0 ∨ ∃ b off, a = some ⟨b, off, none⟩ ∧ ∀ i, i < n → w.cell? ⟨b, off + i, none⟩ = some (.int .u8 (z i)) ∧ 0 ≤ z i ∧ z i ≤ 255
def kOf (z : Nat → Int) (i : Nat) : Nat := (z i % 4).toNat
def refC (g : Nat) : List Value := [.string ⟨#[80, 111, 100]⟩, .string ⟨#[110, 115]⟩, .string (nm g)]
/-- Block R holds n references: the first k are those of ks. -/
def Refs (w : World) (R n k : Nat) (ks : Nat → Nat) : Prop :=
  ∃ cs : Array Value, w.heap[R]? = some (.cells cs 33 (0, 0)) ∧ cs.size = 3 * n ∧ ∀ i, i < k → w.rangeAt R (i * 3) (refC (ks i))

theorem Refs.keep {w w' : World} {R n k : Nat} {ks : Nat → Nat} (h : Refs w R n k ks) (hb : w'.heap[R]? = w.heap[R]?) : Refs w' R n k ks := by
  obtain ⟨cs, h1, h2, h3⟩ := h
  refine ⟨cs, hb.trans h1, h2, fun i hi j v hv => ?_⟩
  rw [World.cell?_of_block (w := w) hb]
  exact h3 i hi j v hv
theorem Refs.lt {w : World} {R n k : Nat} {ks : Nat → Nat} (h : Refs w R n k ks) : R < w.heap.size := by
  obtain ⟨cs, h1, _⟩ := h
  exact (Array.getElem?_eq_some_iff.1 h1).1
theorem Refs.there {w : World} {R n k : Nat} {ks : Nat → Nat} (h : Refs w R n k ks) {i : Nat} (hi : i < n) : w.there R (i * 3) 3 := by
  obtain ⟨cs, h1, h2, _⟩ := h
  intro j hj
  refine ⟨?_, frozen_of_row _ _ _ _ _ h1⟩
  rw [cell_of_row _ _ _ _ _ _ h1, Array.getElem?_eq_getElem (by omega)]
  rfl
theorem Refs.set {w : World} {R n k : Nat} {ks : Nat → Nat} (h : Refs w R n k ks) (hk : k < n) : Refs (w.setCells R (k * 3) (refC (ks k))) R n (k + 1) ks := by
  have ht := h.there hk
  obtain ⟨cs, h1, h2, h3⟩ := h
  have e1 := heap_setCell_same w R (k * 3) cs 33 (.string ⟨#[80, 111, 100]⟩) h1
  have e2 := heap_setCell_same _ R (k * 3 + 1) _ 33 (.string ⟨#[110, 115]⟩) e1
  have e3 := heap_setCell_same _ R (k * 3 + 1 + 1) _ 33 (.string (nm (ks k))) e2
  refine ⟨_, e3, by simpa using h2, fun i hi => ?_⟩
  by_cases hik : i = k
  · subst hik
    exact World.rangeAt_setCells_same _ _ _ _ ht
  · exact World.rangeAt_setCells_apart (h3 i (by omega)) _ _ _ (.inr (.inl (by show i * 3 + 3 ≤ k * 3; omega)))
theorem info33f : (Yba.prog.info? 33).map (fun i => (i.zero, i.size, i.bytes)) = some (some (.agg #[.string ⟨#[]⟩, .string ⟨#[]⟩, .string ⟨#[]⟩]), 3, 48) := by kernel_rfl
theorem make23 (n : Nat) (hn : n ≤ 1024) (w : World) : (Instr.makeSlice 23 (.int .i64 (n : Int)) (.int .i64 (n : Int))).run Yba.prog w = .ok (.slice (some ⟨w.heap.size, 0, none⟩) n n) (w.alloc (.cells (madeCells #[.string ⟨#[]⟩, .string ⟨#[]⟩, .string ⟨#[]⟩] (n * 3)) 33)) := by
  obtain ⟨i, hi, h0, h1, h2⟩ := info_parts info33f
  have := run_make (P := Yba.prog) w 23 33 i _ Yba.underlying23 hi h0 .i64 .i64 n n (by omega) (Int.le_refl _) (by rw [h2]; omega) (by omega)
  rw [h1] at this
  simpa [Value.cells] using this
theorem refC_one (g : Nat) : (#[.string ⟨#[80, 111, 100]⟩, .string ⟨#[110, 115]⟩, .string (nm g)] : Array Value).all (·.oneCell') = true :=
  all_oneCell_toArray (cs := refC g) (fun v hv => by
    simp only [refC, List.mem_cons, List.not_mem_nil, or_false] at hv
    rcases hv with rfl | rfl | rfl <;> rfl)
theorem OInts.mono {w : World} {base base' : Nat} {v : Value} {L : List Nat} (h : OInts w base v L) (hb : base' ≤ base) : OInts w base' v L := by
  refine ⟨h.1, ?_⟩
  rcases h.2 with h | ⟨g, cap, cur, e1, e2, r⟩
  · exact .inl h
  · exact .inr ⟨g, cap, cur, e1, by omega, r⟩
theorem OInts.setCells {w : World} {base R n k : Nat} {v : Value} {L : List Nat} {ks : Nat → Nat} (h : OInts w base v L) (hR : Refs w R n k ks) (o : Nat) (x y z : Value) : OInts (w.setCells R o [x, y, z]) base v L := by
  obtain ⟨cs, h1, _⟩ := hR
  refine ⟨h.1, ?_⟩
  rcases h.2 with h | ⟨g, cap, cur, e1, e2, hg, r⟩
  · exact .inl h
  · refine .inr ⟨g, cap, cur, e1, e2, ?_, r⟩
    have hne : g ≠ R := fun e => by subst e; rw [h1] at hg; simp at hg
    exact (((heap_setCell_other _ _ _ _ hne).trans (heap_setCell_other _ _ _ _ hne)).trans (heap_setCell_other _ _ _ _ hne)).trans hg
theorem below_setCells {B : Nat} {a w : World} (h : Below B a w) {R : Nat} (hR : B ≤ R) (o : Nat) (x y z : Value) : Below B a (w.setCells R o [x, y, z]) := ((h.setCell hR _).setCell hR _).setCell hR _

set_option maxHeartbeats 1000000 in
theorem build_any (a : Option Addr) (n cap qi : Nat) (z : Nat → Int) (w : World) (h : KArg w a n z) (hn : n ≤ 1024) :
    Calls Yba.prog 5 #[.slice a n cap, .int .i64 qi] w fun e w' => ∃ R v, e = .returned (.tuple #[.slice (some ⟨R, 0, none⟩) n n, v]) ∧ w.heap.size ≤ R ∧ Refs w' R n n (kOf z) ∧ OInts w' w.heap.size v (ix (kOf z) qi n) ∧ Below w.heap.size w w' := by
  have hmk := make23 n hn
  go_enter Yba.func5, Yba.ntmps5
  go_wp2_with fail
  generalize hW : World.alloc _ _ = W
  obtain ⟨R, hRd⟩ : ∃ R, R = w.heap.size := ⟨_, rfl⟩
  have hB : Below w.heap.size w W := by rw [← hW]; exact below_al0 (below_al0 (Below.refl _ _))
  have hRf : Refs W R n 0 (kOf z) := ⟨_, by rw [← hW, hRd]; exact heap2a _ _ _, by rw [size_madeCells]; omega, fun i hi => by omega⟩
  have hO : OInts W R (.slice (some ⟨w.heap.size + 1, 0, none⟩) 0 0) [] := ⟨rfl, .inr ⟨w.heap.size + 1, 0, #[], rfl, by omega, by rw [← hW]; exact heap2b _ _ _, Nat.le_refl _, Nat.zero_le _, rfl, rfl⟩⟩
  have hwR : w.heap.size ≤ R := by omega
  have hRw : R ≤ w.heap.size := by omega
  rw [← hRd]
  rw [← hRd] at hO
  clear hW hmk hRd
  go_loopw [7, 16] (fun v i wr => ∃ k : Nat, k ≤ n ∧ i = .int .i64 k ∧ Refs wr R n k (kOf z) ∧ OInts wr R v (ix (kOf z) qi k) ∧ Below w.heap.size w wr) (fun _ i _ => n - (intOf i).toNat)
  case atStart => exact ⟨0, by omega, rfl, hRf, hO, hB⟩
  case round =>
    clear hRf hO hB
    obtain ⟨k, hk, rfl, hRf, hO, hB⟩ := hrel
    by_cases hlt : k < n
    · rcases h with h | ⟨bY, oY, rfl, h⟩
      · omega
      obtain ⟨y0, hz0, hz1⟩ := h k hlt
      have x0 : wr.cell? ⟨bY, oY + k, none⟩ = some (.int .u8 (z k)) := (hB.cell (World.block_lt_of_cell? _ _ y0)).trans y0
      clear y0
      have hlt' : (k : Int) < (n : Int) := by omega
      have hm0 : 0 ≤ z k % 4 := Int.emod_nonneg _ (by omega)
      have hm1 : z k % 4 < 4 := Int.emod_lt_of_pos _ (by omega)
      have hg : ((kOf z k : Nat) : Int) = z k % 4 := Int.toNat_of_nonneg hm0
      have HG : Hid (((kOf z k : Nat) : Int) = z k % 4) := hg
      have hr := ref_any (kOf z k) wr (by omega)
      rw [hg] at hr
      unfold refV at hr
      clear hg
      go_wp2_with (first
        | (go_at_call 8; refine hr.mono ?_; rintro e w1 ⟨rfl, hb1⟩; refine Hid.out ?_)
        | fail)
      unfold Hid
      have hsz := hB.size
      have hRl := hRf.lt
      have hRf1 : Refs w1 R n k (kOf z) := hRf.keep (hb1.block R hRl)
      have hO1 : OInts w1 R u7 (ix (kOf z) qi k) := owns_below hO hb1
      have hB1 : Below w.heap.size w w1 := hB.trans (hb1.mono (by omega))
      have hRf2 := hRf1.set hlt
      have hth := hRf1.there hlt
      have hO2 := hO1.setCells hRf1 (k * 3) (.string ⟨#[80, 111, 100]⟩) (.string ⟨#[110, 115]⟩) (.string (nm (kOf z k)))
      have hB2 := below_setCells hB1 (show w.heap.size ≤ R by omega) (k * 3) (.string ⟨#[80, 111, 100]⟩) (.string ⟨#[110, 115]⟩) (.string (nm (kOf z k)))
      clear hRf hO hB hb1 hr hO1 hB1
      go_wp2_with (first
        | (refine wpList_store_mid rfl 33 (.tmp 27) (.tmp 26) rfl R (k * 3) #[.string ⟨#[80, 111, 100]⟩, .string ⟨#[110, 115]⟩, .string (nm (kOf z k))] rfl rfl hth info33 (refC_one _) ?_; refine Hid.out ?_)
        | fail)
      unfold Hid
      obtain ⟨w2, hw2⟩ : ∃ w2, w2 = w1.setCells R (k * 3) (refC (kOf z k)) := ⟨_, rfl⟩
      have hRf3 : Refs w2 R n (k + 1) (kOf z) := by rw [hw2]; exact hRf2
      have hO3 : OInts w2 R u7 (ix (kOf z) qi k) := by rw [hw2]; exact hO2
      have hB3 : Below w.heap.size w w2 := by rw [hw2]; exact hB2
      rw [show w1.setCells R (k * 3) (#[Value.string ⟨#[80, 111, 100]⟩, Value.string ⟨#[110, 115]⟩, Value.string (nm (kOf z k))] : Array Value).toList = w2 from hw2.symm]
      clear hw2 hRf2 hO2 hB2 hRf1 hth
      by_cases hqg : z k % 4 = (qi : Int)
      · obtain ⟨a7, c7, rfl⟩ := hO3.shape
        have hlx := ix_len (kOf z) qi k
        have hix : ix (kOf z) qi (k + 1) = ix (kOf z) qi k ++ [k] := by
          show _ ++ _ = _
          rw [if_pos (by have := HG.out; omega)]
        go_wp2_with (first
          | (at_builtin; refine Hid.out ?_)
          | fail)
        unfold Hid
        generalize hW : World.alloc _ _ = W3
        have hb4 : Below w2.heap.size w2 W3 := by rw [← hW]; exact below_alloc _ _
        have r3 : W3.heap[w2.heap.size]? = some (.cells #[.int .i64 (k : Int)] 3 (0, 0)) := by rw [← hW]; exact heap1a _ _
        clear hW
        have hs4 := hb4.size
        have hs3 := hB3.size
        have hRl3 := hRf3.lt
        have hO4 := owns_below hO3 hb4
        refine iapp rfl (.tmp 33) (.tmp 35) rfl (v := .slice a7 (ix (kOf z) qi k).length c7) rfl hO4 rfl r3 (by omega) (by omega) ?_
        intro v' w4 hO5 _ hg5 _
        have hRf5 : Refs w4 R n (k + 1) (kOf z) := by
          have := hRf3.keep (hb4.block R hRl3)
          refine this.keep (hg5.block R (by omega) ?_)
          obtain ⟨cs, h1, _⟩ := this
          exact owns_ne_block hO4 h1 (by decide)
        have hB5 : Below w.heap.size w w4 := (hB3.trans (hb4.mono hs3)).grown hg5 (by omega) (fun q hq => by have := (World.ownsRow.lt hO4 q hq).1; omega)
        rw [← hix] at hO5
        clear hg5 r3 hO4 hO3 hB3 hRf3 hb4
        go_wp2
        go_roundw
        case rel => exact ⟨k + 1, by omega, by go_num, hRf5, hO5, hB5⟩
        case measure => simp [intOf]; omega
      · have hix : ix (kOf z) qi (k + 1) = ix (kOf z) qi k := by
          show _ ++ _ = _
          rw [if_neg (by have := HG.out; omega), List.append_nil]
        rw [← hix] at hO3
        go_wp2
        go_roundw
        case rel => exact ⟨k + 1, by omega, by go_num, hRf3, hO3, hB3⟩
        case measure => simp [intOf]; omega
    · have hk' : k = n := by omega
      subst hk'
      have hlt' : ¬ (k : Int) < (k : Int) := by omega
      go_wp2
      go_ret2
      exact ⟨R, u7, rfl, hwR, hRf, hO.mono hwR, hB⟩

end Go.Proofs.Ybulkcryc
