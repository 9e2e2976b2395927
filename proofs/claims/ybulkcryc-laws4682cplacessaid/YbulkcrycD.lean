import Derived.Test.YbulkcrycF
namespace Go.Proofs.Ybulkcryc
open Go.RowKit Go.ChangeMaps Go.MapKept

theorem zero3 (w : World) : (zeroValue 3).run Yba.prog w = .ok (.int .i64 0) w := by kernel_rfl

theorem makeMap39 (n : Int) (w : World) : (Instr.makeMap 39 (some (.int .i64 n))).run Yba.prog w = .ok (.map (some w.heap.size)) (w.alloc (.map #[] 0)) := by kernel_rfl
theorem makeMap40 (w : World) : (Instr.makeMap 40 none).run Yba.prog w = .ok (.map (some w.heap.size)) (w.alloc (.map #[] 0)) := rfl

theorem eql40s (b : Nat) (w : World) : (binOp .eql 40 (.map (some b)) (.map none)).run Yba.prog w = .ok (.bool false) w := by kernel_rfl
theorem eql40n (w : World) : (binOp .eql 40 (.map none) (.map none)).run Yba.prog w = .ok (.bool true) w := by kernel_rfl
/-- What the map of first places holds at g after k rounds. -/
def ff (ks : Nat → Nat) (k g : Nat) : Option Value := (ix ks g k).head?.map fun i => .int .i64 ((i : Nat) : Int)
/-- The map of other places: nil, or a map whose slices lie apart. -/
def More (w : World) (Bf base k : Nat) (ks : Nat → Nat) : Option Nat → Prop
  | none => ∀ g, g ≤ 4 → (ix ks g k).tail = []
  | some Bm => Bm ≠ Bf ∧ ∃ fv : Nat → Option Value, MapIs w Bm k fv ∧ (∀ g, g ≤ 4 → fv g = none → (ix ks g k).tail = []) ∧ (∀ g v, g ≤ 4 → fv g = some v → OInts w base v (ix ks g k).tail ∧ (ix ks g k).tail ≠ []) ∧
      ∀ g g' v v', g ≤ 4 → g' ≤ 4 → g ≠ g' → fv g = some v → fv g' = some v' → v.ownBlock ≠ v'.ownBlock
def PlIs (w : World) (P Bf base k : Nat) (mo : Option Nat) (ks : Nat → Nat) : Prop :=
  w.heap[P]? = some (.cells #[.map (some Bf), .map mo] 42 (0, 0)) ∧ MapIs w Bf k (ff ks k) ∧ More w Bf base k ks mo

theorem ix_same (ks : Nat → Nat) (k g : Nat) (h : g ≠ ks k) : ix ks g (k + 1) = ix ks g k := by
  show _ ++ _ = _
  rw [if_neg (Ne.symm h), List.append_nil]
theorem ix_here (ks : Nat → Nat) (k : Nat) : ix ks (ks k) (k + 1) = ix ks (ks k) k ++ [k] := by
  show _ ++ _ = _
  rw [if_pos rfl]
theorem More.keep {w w' : World} {Bf base k k' : Nat} {ks : Nat → Nat} {mo : Option Nat} (h : More w Bf base k ks mo) {es : Array MapEntry} {c : Nat} (hBf : w.heap[Bf]? = some (.map es c)) (hb : ∀ b, b < w.heap.size → b ≠ Bf → w'.heap[b]? = w.heap[b]?) (hk : k ≤ k') (ht : ∀ g, g ≤ 4 → (ix ks g k').tail = (ix ks g k).tail) : More w' Bf base k' ks mo := by
  cases mo with
  | none => exact fun g hg => (ht g hg).trans (h g hg)
  | some Bm =>
    obtain ⟨hne, fv, hM, h1, h2, h3⟩ := h
    refine ⟨hne, fv, (hM.of_block (hb Bm hM.lt hne)).mono hk, fun g hg hf => (ht g hg).trans (h1 g hg hf), fun g v hg hf => ?_, h3⟩
    obtain ⟨h4, h5⟩ := h2 g v hg hf
    rw [ht g hg]
    exact ⟨ownsRow_block h4 (fun q hq => hb q (World.ownsRow.lt h4 q hq).2 (fun e => owns_ne_map h4 hBf (e ▸ hq))), h5⟩
/-- The map of other places, when a place has been added at g. -/
theorem More.push {W w' : World} {Bf Bm base k : Nat} {ks : Nat → Nat} {fv : Nat → Option Value} {v' : Value} (hne : Bm ≠ Bf) (hBm : ∃ es c, W.heap[Bm]? = some (.map es c))
    (h1 : ∀ g, g ≤ 4 → fv g = none → (ix ks g k).tail = []) (h2 : ∀ g v, g ≤ 4 → fv g = some v → OInts W base v (ix ks g k).tail ∧ (ix ks g k).tail ≠ []) (h3 : ∀ g g' v v', g ≤ 4 → g' ≤ 4 → g ≠ g' → fv g = some v → fv g' = some v' → v.ownBlock ≠ v'.ownBlock)
    (hg : ks k ≤ 4) (hnz : ix ks (ks k) k ≠ []) (hG : G10 W Bm base k ((fv (ks k)).getD (.slice none 0 0)) (ix ks (ks k) k).tail v' w') (hM : MapIs w' Bm (k + 1) (put fv (ks k) v')) : More w' Bf base (k + 1) ks (some Bm) := by
  obtain ⟨es, c, hBm⟩ := hBm
  obtain ⟨_, _, _, hsz, hblk, hO, hloc⟩ := hG
  have hix : (ix ks (ks k) (k + 1)).tail = (ix ks (ks k) k).tail ++ [k] := by
    rw [ix_here]
    cases h : ix ks (ks k) k with
    | nil => exact absurd h hnz
    | cons a r => rfl
  have hold : ∀ g v, g ≤ 4 → g ≠ ks k → fv g = some v → (∀ q, v.ownBlock = some q → q < W.heap.size) ∧ v.ownBlock ≠ ((fv (ks k)).getD (.slice none 0 0)).ownBlock ∧ OInts w' base v (ix ks g k).tail := by
    intro g v hg4 hgk hf
    obtain ⟨h4, h5⟩ := h2 g v hg4 hf
    have hv : v.ownBlock ≠ ((fv (ks k)).getD (.slice none 0 0)).ownBlock := by
      cases hfk : fv (ks k) with
      | some u => exact h3 g (ks k) v u hg4 hg hgk hf hfk
      | none =>
        rcases h4.2 with ⟨e, e2⟩ | ⟨q, _, _, e, _⟩
        · exact absurd (List.eq_nil_of_length_eq_zero e2) h5
        · rw [e]; simp [Value.ownBlock]
    refine ⟨fun q hq => (World.ownsRow.lt h4 q hq).2, hv, ownsRow_block h4 (fun q hq => hblk q (World.ownsRow.lt h4 q hq).2 (fun e => owns_ne_map h4 hBm (e ▸ hq)) (fun e => hv (hq.trans e)))⟩
  have hnew : ∀ g v, g ≤ 4 → g ≠ ks k → fv g = some v → v.ownBlock ≠ v'.ownBlock := by
    intro g v hg4 hgk hf e
    obtain ⟨a, b, _⟩ := hold g v hg4 hgk hf
    rcases hloc with h | ⟨q, h, hq⟩
    · exact b (e.trans h)
    · have := a q (e.trans h)
      omega
  refine ⟨hne, put fv (ks k) v', hM, fun g hg4 hf => ?_, fun g v hg4 hf => ?_, fun g g' v u hg4 hg4' hgg hf hf' => ?_⟩
  · unfold put at hf
    split at hf
    · cases hf
    · rename_i hgk
      rw [ix_same ks k g hgk]
      exact h1 g hg4 hf
  · unfold put at hf
    split at hf
    · rename_i hgk
      obtain rfl := Option.some.inj hf
      rw [hgk, hix]
      exact ⟨hO, by simp⟩
    · rename_i hgk
      rw [ix_same ks k g hgk]
      exact ⟨(hold g v hg4 hgk hf).2.2, (h2 g v hg4 hf).2⟩
  · unfold put at hf hf'
    split at hf
    · rename_i hgk
      obtain rfl := Option.some.inj hf
      split at hf'
      · rename_i hgk'
        exact absurd (hgk.trans hgk'.symm) hgg
      · rename_i hgk'
        exact Ne.symm (hnew g' u hg4' hgk' hf')
    · rename_i hgk
      split at hf'
      · obtain rfl := Option.some.inj hf'
        exact hnew g v hg4 hgk hf
      · exact h3 g g' v u hg4 hg4' hgg hf hf'

set_option maxHeartbeats 1000000 in
theorem places_any (R n : Nat) (ks : Nat → Nat) (w : World) (hR : Refs w R n n ks) (hks : ∀ i, ks i ≤ 3) (hn : n ≤ 1024) :
    Calls Yba.prog 6 #[.slice (some ⟨R, 0, none⟩) n n] w fun e w' => ∃ P Bf mo, e = .returned (.pointer (some ⟨P, 0, none⟩)) ∧ w.heap.size ≤ P ∧ w.heap.size ≤ Bf ∧ (∀ b, mo = some b → w.heap.size ≤ b) ∧ PlIs w' P Bf w.heap.size n mo ks ∧ Below w.heap.size w w' := by
  have hmm := makeMap39 n
  go_enter Yba.func6, Yba.ntmps6
  go_wp2_with fail
  generalize hW : World.alloc _ _ = W
  obtain ⟨Bf, hBf⟩ : ∃ Bf, Bf = w.heap.size := ⟨_, rfl⟩
  have hB : Below w.heap.size w W := by rw [← hW]; exact below_al0 (below_al0 (Below.refl _ _))
  have hPl : PlIs W (Bf + 1) Bf w.heap.size 0 none ks := by
    refine ⟨by rw [← hW, hBf]; exact heap2b _ _ _, ?_, fun g _ => rfl⟩
    rw [← hW, hBf]
    exact ((MapIs_made w).of_block (heap_past _ _ _ (by simp))).congr (fun g _ => rfl)
  have hwB : w.heap.size ≤ Bf := by omega
  rw [← hBf]
  clear hW hmm hBf
  go_loopw [15] (fun i wr => ∃ (k : Nat) (mo : Option Nat), k ≤ n ∧ i = .int .i64 k ∧ PlIs wr (Bf + 1) Bf w.heap.size k mo ks ∧ (∀ b, mo = some b → w.heap.size ≤ b) ∧ Below w.heap.size w wr) (fun i _ => n - (intOf i).toNat)
  case atStart => exact ⟨0, none, by omega, rfl, hPl, (fun _ h => by cases h), hB⟩
  case round =>
    clear hPl hB
    obtain ⟨k, mo, hk, rfl, ⟨hP, hF, hM⟩, hmo, hB⟩ := hrel
    have hRr : Refs wr R n n ks := hR.keep (hB.block R hR.lt)
    by_cases hlt : k < n
    · obtain ⟨_, _, _, hra⟩ := hRr
      have x0 : wr.cell? ⟨R, k * 3, none⟩ = some (.string ⟨#[80, 111, 100]⟩) := hra k hlt 0 _ rfl
      have x1 : wr.cell? ⟨R, k * 3 + 1, none⟩ = some (.string ⟨#[110, 115]⟩) := hra k hlt 1 _ rfl
      have x2 : wr.cell? ⟨R, k * 3 + 2, none⟩ = some (.string (nm (ks k))) := hra k hlt 2 _ rfl
      have hlt' : (k : Int) < (n : Int) := by omega
      have hg3 := hks k
      obtain ⟨g, hg⟩ : ∃ g, g = ks k := ⟨_, rfl⟩
      rw [← hg] at x2 hg3
      have HG : Hid (g = ks k) := hg
      clear hg
      go_upto_region 5 with fail
      generalize hW : World.alloc _ _ = W5
      have hB5 : Below wr.heap.size wr W5 := by rw [← hW]; exact below_alloc _ _
      have hT5 : W5.heap[wr.heap.size]? = some (.cells #[.string ⟨#[80, 111, 100]⟩, .string ⟨#[110, 115]⟩, .string (nm g)] 33 (0, 0)) := by rw [← hW]; exact heap1a _ _
      obtain ⟨T5, hT5d⟩ : ∃ T5, T5 = wr.heap.size := ⟨_, rfl⟩
      rw [← hT5d] at hT5 hB5
      rw [← hT5d]
      have hP5 := (hB5.block (Bf + 1) (by rw [hT5d]; exact (Array.getElem?_eq_some_iff.1 hP).1)).trans hP
      have hF5 := hF.of_block (hB5.block Bf (by rw [hT5d]; exact hF.lt))
      have cP0 := cell_of_row W5 (Bf + 1) 0 _ _ _ hP5
      have cP1 := cell_of_row W5 (Bf + 1) 1 _ _ _ hP5
      have cT0 := cell_of_row W5 T5 0 _ _ _ hT5
      have cT1 := cell_of_row W5 T5 1 _ _ _ hT5
      have cT2 := cell_of_row W5 T5 2 _ _ _ hT5
      have HT5 : Hid (T5 = wr.heap.size) := hT5d
      have hsB := hB.size
      have hBW5 : Below w.heap.size w W5 := hB.trans (hB5.mono (by omega))
      have hM5 : More W5 Bf w.heap.size k ks mo := by
        obtain ⟨esx, cx, hBfx⟩ := hF.map
        exact hM.keep hBfx (fun b hb _ => hB5.block b (by omega)) (Nat.le_refl _) (fun _ _ => rfl)
      clear hT5d hW
      cases hix : ix ks g k with
      | nil =>
        have hlk : ∀ m, (Instr.lookup 39 (.map (some Bf)) (.agg #[.string ⟨#[80, 111, 100]⟩, .string ⟨#[110, 115]⟩, .string (nm g)]) true).run Yba.prog (W5.drewN m) = .ok (.tuple #[.int .i64 0, .bool false]) (W5.drewN m) := fun m => by
          have := (hF5.of_block (w' := W5.drewN m) rfl).look_ok Yba.underlying39 (zero3 _) (g := g) (by omega)
          rw [show ff ks k g = none by unfold ff; rw [hix]; rfl] at this
          exact this
        have HIX : Hid (ix ks g k = []) := hix
        clear hix
        go_quiet (fail)
        go_upto_region 7 with fail
        refine first_region (P := Bf + 1) (Bf := Bf) (T5 := T5) (g := g) (k := k) (n := k) (mo := mo) (f0 := ff ks k) _ ?hA ?h3 ?h4 ?h5 ?hsz ?hlow ?hw ?hm ?o0 ?o1 ?o2 ?o3 ?o4 ?o5 ?o6 hP5 hT5 (hF5.of_block rfl) (by unfold maxLen; omega) (by omega) ?hQ
        case hA => show 37 ≤ 59; omega
        case h3 => rfl
        case h4 => rfl
        case h5 => rfl
        case hsz => rfl
        case hlow => kernel_rfl
        case hm => kernel_rfl
        case o0 => exact ⟨_, rfl, rfl, rfl, rfl⟩
        case o1 => exact ⟨_, rfl, rfl, rfl, rfl⟩
        case o2 => exact ⟨_, rfl, rfl, rfl, rfl⟩
        case o3 => exact ⟨_, rfl, rfl, rfl, rfl⟩
        case o4 => exact ⟨_, rfl, rfl, rfl, rfl⟩
        case o5 => exact ⟨_, rfl, rfl, rfl, rfl⟩
        case o6 => exact ⟨_, rfl, rfl, rfl, rfl⟩
        case hw =>
          intro p hp
          simp only [edges7, List.mem_cons, List.not_mem_nil, or_false] at hp
          rcases hp with h | h | h | h | h | h | h | h | h <;> subst h <;> kernel_rfl
        case hQ =>
          intro f w6 hM6 ht6
          have hgr := ht6.grown
          obtain ⟨es5, c5, hBf5⟩ := hF5.map
          have hMo : More w6 Bf w.heap.size (k + 1) ks mo := by
            refine hM5.keep hBf5 (fun b hb hne => hgr.block b hb (by simpa using hne)) (by omega) (fun j _ => ?_)
            by_cases hj : j = ks k
            · rw [hj, ix_here, ← HG.out, HIX.out]; rfl
            · rw [ix_same ks k j hj]
          have hF6 : MapIs w6 Bf (k + 1) (ff ks (k + 1)) := by
            refine hM6.congr (fun j _ => ?_)
            unfold put
            by_cases hj : j = g
            · rw [if_pos hj, hj]
              unfold ff
              rw [HG.out, ix_here, ← HG.out, HIX.out]
              rfl
            · rw [if_neg hj]
              unfold ff
              rw [ix_same ks k j (by rw [← HG.out]; exact hj)]
          have hP6 : w6.heap[Bf + 1]? = some (.cells #[.map (some Bf), .map mo] 42 (0, 0)) := (hgr.block (Bf + 1) (Array.getElem?_eq_some_iff.1 hP5).1 (by simp)).trans hP5
          have hB6 : Below w.heap.size w w6 := Below.grown (w := (W5.drewN nq).drew) ⟨hBW5.os, hBW5.tape, hBW5.output, hBW5.size, hBW5.block⟩ hgr hBW5.size (fun q hq => by have := Option.some.inj hq; omega)
          simp only [putsR, Act.put, Nat.reduceAdd, List.setIfInBounds_toArray, List.set_cons_zero, List.set_cons_succ]
          clear hlk hP5 hF5 hT5 hM6 ht6 hgr cP0 cP1 cT0 cT1 cT2 hBf5
          go_wp2
          go_roundw
          case rel => exact ⟨k + 1, mo, by omega, by go_num, ⟨hP6, hF6, hMo⟩, hmo, hB6⟩
          case measure => simp [intOf]; omega
      | cons i0 r0 =>
        have hlk : ∀ m, (Instr.lookup 39 (.map (some Bf)) (.agg #[.string ⟨#[80, 111, 100]⟩, .string ⟨#[110, 115]⟩, .string (nm g)]) true).run Yba.prog (W5.drewN m) = .ok (.tuple #[.int .i64 (i0 : Int), .bool true]) (W5.drewN m) := fun m => by
          have := (hF5.of_block (w' := W5.drewN m) rfl).look_ok Yba.underlying39 (zero3 _) (g := g) (by omega)
          rw [show ff ks k g = some (.int .i64 (i0 : Int)) by unfold ff; rw [hix]; rfl] at this
          exact this
        have HIX : Hid (ix ks g k = i0 :: r0) := hix
        clear hix
        obtain ⟨es5, c5, hBf5⟩ := hF5.map
        go_quiet (fail)
        cases mo with
        | some Bm =>
          obtain ⟨hne, fv, hMm, m1, m2, m3⟩ := hM5
          obtain ⟨esm, cm, hBm5⟩ := hMm.map
          have hOg : OInts W5 w.heap.size ((fv g).getD (.slice none 0 0)) (ix ks g k).tail := by
            cases hfg : fv g with
            | none => rw [m1 g (by omega) hfg]; exact World.ownsRow_nil _ _ _ _
            | some v => exact (m2 g v (by omega) hfg).1
          have heq := eql40s Bm
          go_upto_region 10 with fail
          clear heq
          refine more_region (P := Bf + 1) (Bf := Bf) (Bm := Bm) (T5 := T5) (base := w.heap.size) (g := g) (k := k) (n := k) (fv := fv) (L := (ix ks g k).tail) _ ?hA ?h3 ?h4 ?h5 ?hsz ?hlow ?hw ?hm ?o0 ?o1 ?o2 ?o3 ?o4 ?o5 ?o6 ?o7 ?o8 ?o9 ?o10 ?o11 hP5 hT5 (hMm.of_block rfl) (by unfold maxLen; omega) (by omega) hOg (by have := ix_len ks g k; simp; omega) hBW5.size ?hQ
          case hA => show 57 ≤ 59; omega
          case h3 => rfl
          case h4 => rfl
          case h5 => rfl
          case hsz => rfl
          case hlow => kernel_rfl
          case hm => kernel_rfl
          case o0 => exact ⟨_, rfl, rfl, rfl, rfl⟩
          case o1 => exact ⟨_, rfl, rfl, rfl, rfl⟩
          case o2 => exact ⟨_, rfl, rfl, rfl, rfl⟩
          case o3 => exact ⟨_, rfl, rfl, rfl, rfl⟩
          case o4 => exact ⟨_, rfl, rfl, rfl, rfl⟩
          case o5 => exact ⟨_, rfl, rfl, rfl, rfl⟩
          case o6 => exact ⟨_, rfl, rfl, rfl, rfl⟩
          case o7 => exact ⟨_, rfl, rfl, rfl, rfl⟩
          case o8 => exact ⟨_, rfl, rfl, rfl, rfl⟩
          case o9 => exact ⟨_, rfl, rfl, rfl, rfl⟩
          case o10 => exact ⟨_, rfl, rfl, rfl, rfl⟩
          case o11 => exact ⟨_, rfl, rfl, rfl, rfl⟩
          case hw =>
            intro p hp
            simp only [edges10, List.mem_cons, List.not_mem_nil, or_false] at hp
            rcases hp with h | h | h | h | h | h | h | h | h | h | h | h | h <;> subst h <;> kernel_rfl
          case hQ =>
            intro f w6 v' hG6 hM6
            have hG6' := hG6
            obtain ⟨g1, g2, g3, g4, g5, g6, _⟩ := hG6'
            have hMo : More w6 Bf w.heap.size (k + 1) ks (some Bm) := by
              refine More.push (W := W5) hne ⟨_, _, hBm5⟩ m1 m2 m3 (by rw [← HG.out]; omega) (by rw [← HG.out, HIX.out]; simp) (by rw [← HG.out]; exact hG6) (by rw [← HG.out]; exact hM6)
            have hvb : ∀ q, ((fv g).getD (.slice none 0 0)).ownBlock = some q → w.heap.size ≤ q := fun q hq => (World.ownsRow.lt hOg q hq).1
            have hF6 : MapIs w6 Bf (k + 1) (ff ks (k + 1)) := by
              refine ((hF5.of_block (g5 Bf hF5.lt (Ne.symm hne) (fun e => owns_ne_map hOg hBf5 e.symm))).mono (Nat.le_succ k)).congr (fun j _ => ?_)
              unfold ff
              by_cases hj : j = ks k
              · rw [hj, ix_here, ← HG.out, HIX.out]; rfl
              · rw [ix_same ks k j hj]
            have hP6 : w6.heap[Bf + 1]? = some (.cells #[.map (some Bf), .map (some Bm)] 42 (0, 0)) := (g5 (Bf + 1) (Array.getElem?_eq_some_iff.1 hP5).1 (fun e => by rw [e] at hP5; rw [show W5.heap[Bm]? = _ from hBm5] at hP5; cases hP5) (owns_ne_block hOg hP5 (by decide))).trans hP5
            have hBmge := hmo Bm rfl
            have hB6 : Below w.heap.size w w6 := hBW5.trans ⟨g1, g2, g3, g4, fun q hq => g5 q (show q < W5.heap.size by have := hBW5.size; omega) (by omega) (fun e => by have := hvb q e.symm; omega)⟩
            simp only [putsR, Act.put, Nat.reduceAdd, List.setIfInBounds_toArray, List.set_cons_zero, List.set_cons_succ]
            clear hlk hP5 hF5 hT5 hM6 hG6 cP0 cP1 cT0 cT1 cT2 hBf5 hMm hOg m1 m2 m3 g1 g2 g3 g4 g5 g6 hBm5
            go_wp2
            go_roundw
            case rel => exact ⟨k + 1, some Bm, by omega, by go_num, ⟨hP6, hF6, hMo⟩, hmo, hB6⟩
            case measure => simp [intOf]; omega
        | none =>
          have heq := eql40n
          have hmk := makeMap40
          have hPl5 := (Array.getElem?_eq_some_iff.1 hP5).1
          have hFl5 := hF5.lt
          have hTl5 := (Array.getElem?_eq_some_iff.1 hT5).1
          have hPa : ((W5.drewN nq).alloc (.map #[] 0)).heap[Bf + 1]? = some (.cells #[.map (some Bf), .map none] 42 (0, 0)) := (heap_past _ _ _ hPl5).trans hP5
          have cPa := cell_of_row _ (Bf + 1) 1 _ _ _ hPa
          have fPa := frozen_of_row _ (Bf + 1) 1 _ _ hPa
          go_upto_region 10 with fail
          obtain ⟨Bm, hBmd⟩ : ∃ Bm, Bm = W5.heap.size := ⟨_, rfl⟩
          rw [← hBmd]
          obtain ⟨X, hX⟩ : ∃ X, X = ((W5.drewN nq).alloc (.map #[] 0)).setCell ⟨Bf + 1, 1, none⟩ (.map (some Bm)) := ⟨_, rfl⟩
          rw [← hX]
          have hPX : X.heap[Bf + 1]? = some (.cells #[.map (some Bf), .map (some Bm)] 42 (0, 0)) := by rw [hX]; exact heap_setCell_same _ _ _ _ _ _ hPa
          have hXo : ∀ b, b < W5.heap.size → b ≠ Bf + 1 → X.heap[b]? = W5.heap[b]? := fun b hb hne => by rw [hX, heap_setCell_other _ _ _ _ hne]; exact heap_past _ _ _ hb
          have hTX : X.heap[T5]? = some (.cells (refC g).toArray 33 (0, 0)) := (hXo T5 hTl5 (fun e => by rw [e, hP5] at hT5; cases hT5)).trans hT5
          have hMX : MapIs X Bm k (fun _ => none) := by
            refine MapIs.mono (n := 0) ?_ (by omega)
            rw [hX, hBmd]
            exact (MapIs_made (W5.drewN nq)).of_block (heap_setCell_other _ _ _ _ (by show W5.heap.size ≠ Bf + 1; omega))
          have hBX := hXo Bf hFl5 (by omega)
          have hXs : X.heap.size = W5.heap.size + 1 := by rw [hX]; simp [World.setCell]
          have hBXw : Below w.heap.size w X := hBW5.trans ⟨by rw [hX]; rfl, by rw [hX]; rfl, by rw [hX]; rfl, by omega, fun q hq => hXo q (by have := hBW5.size; omega) (by omega)⟩
          clear heq hmk hPa cPa fPa hX hXo
          refine more_region (P := Bf + 1) (Bf := Bf) (Bm := Bm) (T5 := T5) (base := w.heap.size) (g := g) (k := k) (n := k) (fv := fun _ => none) (L := (ix ks g k).tail) _ ?hA ?h3 ?h4 ?h5 ?hsz ?hlow ?hw ?hm ?o0 ?o1 ?o2 ?o3 ?o4 ?o5 ?o6 ?o7 ?o8 ?o9 ?o10 ?o11 hPX hTX hMX (by unfold maxLen; omega) (by omega) (by rw [hM5 g (by omega)]; exact World.ownsRow_nil _ _ _ _) (by have := ix_len ks g k; simp; omega) (by have := hBW5.size; omega) ?hQ
          case hA => show 57 ≤ 59; omega
          case h3 => rfl
          case h4 => rfl
          case h5 => rfl
          case hsz => rfl
          case hlow => kernel_rfl
          case hm => kernel_rfl
          case o0 => exact ⟨_, rfl, rfl, rfl, rfl⟩
          case o1 => exact ⟨_, rfl, rfl, rfl, rfl⟩
          case o2 => exact ⟨_, rfl, rfl, rfl, rfl⟩
          case o3 => exact ⟨_, rfl, rfl, rfl, rfl⟩
          case o4 => exact ⟨_, rfl, rfl, rfl, rfl⟩
          case o5 => exact ⟨_, rfl, rfl, rfl, rfl⟩
          case o6 => exact ⟨_, rfl, rfl, rfl, rfl⟩
          case o7 => exact ⟨_, rfl, rfl, rfl, rfl⟩
          case o8 => exact ⟨_, rfl, rfl, rfl, rfl⟩
          case o9 => exact ⟨_, rfl, rfl, rfl, rfl⟩
          case o10 => exact ⟨_, rfl, rfl, rfl, rfl⟩
          case o11 => exact ⟨_, rfl, rfl, rfl, rfl⟩
          case hw =>
            intro p hp
            simp only [edges10, List.mem_cons, List.not_mem_nil, or_false] at hp
            rcases hp with h | h | h | h | h | h | h | h | h | h | h | h | h <;> subst h <;> kernel_rfl
          case hQ =>
            intro f w6 v' hG6 hM6
            have hG6' := hG6
            obtain ⟨g1, g2, g3, g4, g5, g6, _⟩ := hG6'
            have hMo : More w6 Bf w.heap.size (k + 1) ks (some Bm) := by
              refine More.push (W := X) (fv := fun _ => none) (by omega) hMX.map (fun j hj _ => hM5 j hj) (fun _ _ _ h => by cases h) (fun _ _ _ _ _ _ _ h => by cases h) (by rw [← HG.out]; omega) (by rw [← HG.out, HIX.out]; simp) (by rw [← HG.out]; exact hG6) (by rw [← HG.out]; exact hM6)
            have hF6 : MapIs w6 Bf (k + 1) (ff ks (k + 1)) := by
              refine ((hF5.of_block ((g5 Bf (by omega) (by omega) (by simp [Value.ownBlock])).trans hBX)).mono (Nat.le_succ k)).congr (fun j _ => ?_)
              unfold ff
              by_cases hj : j = ks k
              · rw [hj, ix_here, ← HG.out, HIX.out]; rfl
              · rw [ix_same ks k j hj]
            have hP6 : w6.heap[Bf + 1]? = some (.cells #[.map (some Bf), .map (some Bm)] 42 (0, 0)) := (g5 (Bf + 1) (by omega) (by omega) (by simp [Value.ownBlock])).trans hPX
            have hB6 : Below w.heap.size w w6 := hBXw.trans ⟨g1, g2, g3, g4, fun q hq => g5 q (by have := hBW5.size; omega) (by have := hBW5.size; omega) (by simp [Value.ownBlock])⟩
            simp only [putsR, Act.put, Nat.reduceAdd, List.setIfInBounds_toArray, List.set_cons_zero, List.set_cons_succ]
            clear hlk hP5 hF5 hT5 hM6 hG6 cP0 cP1 cT0 cT1 cT2 hBf5 hM5 hMX hPX hTX hBX hBXw g1 g2 g3 g4 g5 g6
            go_wp2
            go_roundw
            case rel => exact ⟨k + 1, some Bm, by omega, by go_num, ⟨hP6, hF6, hMo⟩, (fun b hb => by obtain rfl := Option.some.inj hb; have := hBW5.size; omega), hB6⟩
            case measure => simp [intOf]; omega
    · have hk' : k = n := by omega
      subst hk'
      have hlt' : ¬ (k : Int) < (k : Int) := by omega
      go_wp2
      go_ret
      exact ⟨Bf + 1, rfl, by omega, Bf, hwB, mo, hmo, ⟨hP, hF, hM⟩, hB⟩

end Go.Proofs.Ybulkcryc
