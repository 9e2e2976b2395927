import Derived.Test.YbulkcrxaDoorL
namespace Go.Proofs.YbulkcrxaDoor
open Go.RowKit

def hx (s : ByteArray) : ByteArray := ⟨#[104, 120, 45]⟩ ++ s
def rowA (n : ByteArray) : List ByteArray := [⟨#[105, 112]⟩, ⟨#[110, 101, 116, 110, 115]⟩, ⟨#[97, 100, 100]⟩, hx n]
def rowB (n : ByteArray) : List ByteArray := [⟨#[105, 112]⟩, ⟨#[45, 110]⟩, hx n, ⟨#[108, 105, 110, 107]⟩, ⟨#[115, 101, 116]⟩, ⟨#[108, 111]⟩, ⟨#[117, 112]⟩]
def headC (n : ByteArray) : List ByteArray := [⟨#[105, 112]⟩, ⟨#[110, 101, 116, 110, 115]⟩, ⟨#[101, 120, 101, 99]⟩, hx n, ⟨#[115, 121, 115, 99, 116, 108]⟩, ⟨#[45, 113]⟩, ⟨#[45, 119]⟩]
def sel (n m : ByteArray) : Bool := (m.toList == [42]) || (m.toList == n.toList)
def setsFor (n : ByteArray) : List (ByteArray × ByteArray) → List ByteArray
  | [] => []
  | s :: r => if sel n s.1 then s.2 :: setsFor n r else setsFor n r
def part1 : List ByteArray → List (List ByteArray)
  | [] => []
  | n :: r => rowA n :: rowB n :: part1 r
def part2 (ss : List (ByteArray × ByteArray)) : List ByteArray → List (List ByteArray)
  | [] => []
  | n :: r => if setsFor n ss = [] then part2 ss r else (headC n ++ setsFor n ss) :: part2 ss r

theorem part1_snoc (l : List ByteArray) (n : ByteArray) : part1 (l ++ [n]) = part1 l ++ [rowA n, rowB n] := by
  induction l with
  | nil => rfl
  | cons a r ih => simp [part1, ih]
theorem part2_snoc (ss : List (ByteArray × ByteArray)) (l : List ByteArray) (n : ByteArray) : part2 ss (l ++ [n]) = part2 ss l ++ (if setsFor n ss = [] then [] else [headC n ++ setsFor n ss]) := by
  induction l with
  | nil => simp only [List.nil_append, part2]
  | cons a r ih => simp only [List.cons_append, part2, ih]; split <;> simp
theorem setsFor_snoc (n : ByteArray) (l : List (ByteArray × ByteArray)) (s : ByteArray × ByteArray) : setsFor n (l ++ [s]) = setsFor n l ++ (if sel n s.1 then [s.2] else []) := by
  induction l with
  | nil => simp only [List.nil_append, setsFor]
  | cons a r ih => simp only [List.cons_append, setsFor, ih]; split <;> simp
theorem take_succ' {α : Type} (l : List α) (k : Nat) (d : α) (h : k < l.length) : l.take (k + 1) = l.take k ++ [l.getD k d] := by
  rw [List.take_succ_eq_append_getElem h, List.getD_eq_getElem?_getD, List.getElem?_eq_getElem h]; rfl
theorem part1_len (l : List ByteArray) : (part1 l).length = 2 * l.length := by
  induction l with
  | nil => rfl
  | cons a r ih => simp [part1, ih]; omega
theorem part2_len (ss : List (ByteArray × ByteArray)) (l : List ByteArray) : (part2 ss l).length ≤ l.length := by
  induction l with
  | nil => exact Nat.le_refl _
  | cons a r ih => simp only [part2]; split <;> simp <;> omega
theorem setsFor_len (n : ByteArray) (l : List (ByteArray × ByteArray)) : (setsFor n l).length ≤ l.length := by
  induction l with
  | nil => exact Nat.le_refl _
  | cons a r ih => simp only [setsFor]; split <;> simp <;> omega

def Pairs (w : World) (v : Value) (ss : List (ByteArray × ByteArray)) : Prop :=
  ∃ a cap, v = .slice a ss.length cap ∧ (ss = [] ∨ ∃ b off, a = some ⟨b, off, none⟩ ∧ ∀ i, i < ss.length → w.cell? ⟨b, off + i * 2, none⟩ = some (.string (ss.getD i default).1) ∧ w.cell? ⟨b, off + i * 2 + 1, none⟩ = some (.string (ss.getD i default).2))

theorem ns_any (s : ByteArray) (w : World) (hs : s.size ≤ 140737488351232) : Calls Ybad.prog 11 #[.string s] w fun e w' => e = .returned (.string (hx s)) ∧ w = w' := by
  go_enter Ybad.func11, Ybad.ntmps11
  go_wp2
  go_ret
  exact ⟨rfl, rfl⟩

theorem World.ownsRow.mono {w : World} {base base' e size n : Nat} {v : Value} {xs : List Value} (h : w.ownsRow base e size v n xs) (hb : base' ≤ base) : w.ownsRow base' e size v n xs := by
  refine ⟨h.1, ?_⟩
  rcases h.2 with h | ⟨g, cap, cur, e1, e2, r⟩
  · exact .inl h
  · exact .inr ⟨g, cap, cur, e1, Nat.le_trans hb e2, r⟩

set_option maxHeartbeats 1000000 in
set_option maxRecDepth 100000 in
theorem up_nodes (T : Nat) (vN vS : Value) (nodes : List ByteArray) (ss : List (ByteArray × ByteArray)) (w : World)
    (c0 : w.cell? ⟨T, 0, none⟩ = some vN) (c1 : w.cell? ⟨T, 1, none⟩ = some vS) (c2 : w.cell? ⟨T, 2, none⟩ = some (.slice none 0 0)) (c3 : w.cell? ⟨T, 3, none⟩ = some (.slice none 0 0))
    (hN : Strs w vN nodes) (hS : Pairs w vS ss) (hln : nodes.length ≤ 300) (hls : ss.length ≤ 300) (hsz : ∀ i, (nodes.getD i ByteArray.empty).size ≤ 140737488351232) :
    Calls Ybad.prog 6 #[.pointer (some ⟨T, 0, none⟩)] w fun e w' => ∃ V, e = .returned V ∧ OMat w' w.heap.size V (part1 nodes ++ part2 ss nodes) ∧ Below w.heap.size w w' := by
  obtain ⟨i9, hi9, hz90, hz91, hz92⟩ := info_parts info9
  obtain ⟨i22, hi22, hz220, hz221, hz222⟩ := info_parts info22
  obtain ⟨aN, capN, rfl, hN⟩ := hN
  obtain ⟨aS, capS, rfl, hS⟩ := hS
  have hT := World.block_lt_of_cell? _ _ c0
  go_enter Ybad.func6, Ybad.ntmps6
  go_wp2_with fail
  go_loopw [3, 28] (fun V i wr => ∃ k : Nat, k ≤ nodes.length ∧ i = .int .i64 k ∧ OMat wr w.heap.size V (part1 (nodes.take k)) ∧ Below w.heap.size w wr) (fun _ i _ => nodes.length - (intOf i).toNat)
  case atStart => exact ⟨0, by omega, rfl, OMat.nil _ _, Below.refl _ _⟩
  case round =>
    obtain ⟨k, hk, rfl, hM, hb⟩ := hrel
    by_cases hlt : k < nodes.length
    · rcases hN with hN | ⟨bN, oN, rfl, hN⟩
      · simp [hN] at hlt
      obtain ⟨s, hs⟩ : ∃ s, s = nodes.getD k ByteArray.empty := ⟨_, rfl⟩
      have g := hN k hlt
      have hss := hsz k
      rw [← hs] at g hss
      have hbN := World.block_lt_of_cell? _ _ g
      have g' : wr.cell? ⟨bN, oN + k, none⟩ = some (.string s) := (hb.cell hbN).trans g
      have HS : Hid (s = nodes.getD k ByteArray.empty) := hs
      clear hs
      have hlt' : (k : Int) < (nodes.length : Int) := by omega
      go_wp2_with (first
        | (go_at_call 11; refine (ns_any s _ hss).mono ?_; rintro e w' ⟨rfl, rfl⟩)
        | (at_builtin; refine Hid.out ?_)
        | go_in)
      unfold Hid
      have hwb := hb.size
      generalize hW : World.alloc _ _ = W
      have hB : Below wr.heap.size wr W := by rw [← hW]; exact (((Below.refl _ _).alloc (Nat.le_refl _) _).alloc (by simp) _).alloc (by simp; omega) _
      have r1 : ORow W w.heap.size (.slice (some ⟨wr.heap.size, 0, none⟩) 4 4) (rowA s) := orow_at (rowA s) (by rw [← hW]; exact heap3a _ _ _ _) rfl rfl hwb (by omega)
      have r2 : ORow W w.heap.size (.slice (some ⟨wr.heap.size + 1, 0, none⟩) 7 7) (rowB s) := orow_at (rowB s) (by rw [← hW]; exact heap3b _ _ _ _) rfl rfl (by omega) (by omega)
      have r3 : W.heap[wr.heap.size + 1 + 1]? = some (.cells #[.slice (some ⟨wr.heap.size, 0, none⟩) 4 4, .slice (some ⟨wr.heap.size + 1, 0, none⟩) 7 7] 22 (0, 0)) := by rw [← hW]; exact heap3c _ _ _ _
      clear hW
      have hp := part1_len (nodes.take k)
      have htk : (nodes.take k).length = k := by simp; omega
      refine omat_append rfl (.tmp 32) (.tmp 39) rfl (ls := [rowA s, rowB s]) rfl (hM.below hB) rfl r3 rfl rfl ?_ (by omega) (by omega) (by have := hB.size; omega) ?_
      · intro i hi
        match i, hi with
        | 0, _ => exact ⟨_, rfl, r1⟩
        | 1, _ => exact ⟨_, rfl, r2⟩
      · intro v' w1 hM' hb1 _
        have hb2 : Below w.heap.size w w1 := (hb.trans (hB.mono hwb)).trans hb1
        clear hb1 r1 r2 r3 hM hB
        go_wp2
        go_roundw
        case rel =>
          refine ⟨k + 1, by omega, by go_num, ?_, hb2⟩
          rw [take_succ' nodes k ByteArray.empty hlt, part1_snoc, ← HS.out]
          exact hM'
        case measure => simp [intOf]; omega
    · have c0' : wr.cell? ⟨T, 0, none⟩ = _ := (hb.cell (p := ⟨T, 0, none⟩) hT).trans c0
      have c1' : wr.cell? ⟨T, 1, none⟩ = _ := (hb.cell (p := ⟨T, 1, none⟩) hT).trans c1
      have hk' : k = nodes.length := by omega
      subst hk'
      rw [List.take_length] at hM
      clear hlt hk
      go_wp2_with fail
      obtain ⟨w0, hw0⟩ : ∃ w0 : World, w0 = wr := ⟨_, rfl⟩
      go_loopw [3, 47] (fun V i wr => ∃ k : Nat, k ≤ nodes.length ∧ i = .int .i64 k ∧ OMat wr w.heap.size V (part1 nodes ++ part2 ss (nodes.take k)) ∧ Below w.heap.size w wr) (fun _ i _ => nodes.length - (intOf i).toNat)
      case atStart => exact ⟨0, by omega, rfl, by simpa [part2] using hM, hb⟩
      case round =>
        clear hM hb c0' c1' hw0 w0
        obtain ⟨k, hk, rfl, hM, hb⟩ := hrel
        have c1' : wr.cell? ⟨T, 1, none⟩ = _ := (hb.cell (p := ⟨T, 1, none⟩) hT).trans c1
        have c2' : wr.cell? ⟨T, 2, none⟩ = _ := (hb.cell (p := ⟨T, 2, none⟩) hT).trans c2
        have c3' : wr.cell? ⟨T, 3, none⟩ = _ := (hb.cell (p := ⟨T, 3, none⟩) hT).trans c3
        by_cases hlt : k < nodes.length
        · rcases hN with hN | ⟨bN, oN, rfl, hN⟩
          · simp [hN] at hlt
          obtain ⟨s, hs⟩ : ∃ s, s = nodes.getD k ByteArray.empty := ⟨_, rfl⟩
          have g := hN k hlt
          have hss := hsz k
          rw [← hs] at g hss
          have hbN := World.block_lt_of_cell? _ _ g
          have g' : wr.cell? ⟨bN, oN + k, none⟩ = some (.string s) := (hb.cell hbN).trans g
          have HS : Hid (s = nodes.getD k ByteArray.empty) := hs
          clear hs c2' c3'
          have hTr : T < wr.heap.size := Nat.lt_of_lt_of_le hT hb.size
          have hlt' : (k : Int) < (nodes.length : Int) := by omega
          go_wp2_with (first
            | (go_at_call 11; refine (ns_any s _ hss).mono ?_; rintro e w' ⟨rfl, rfl⟩)
            | (at_builtin; refine Hid.out ?_)
            | go_in)
          obtain ⟨wo, hwo⟩ : ∃ wo : World, wo = wr := ⟨_, rfl⟩
          rw [← hwo] at hM hb c1' g' hTr
          rw [← hwo]
          clear hwo wr
          have hwb := hb.size
          go_loopw [8, 61] (fun v i wi => ∃ j : Nat, j ≤ ss.length ∧ i = .int .i64 j ∧ ORow wi wo.heap.size v (headC s ++ setsFor s (ss.take j)) ∧ Below wo.heap.size wo wi) (fun _ i _ => ss.length - (intOf i).toNat)
          case atStart =>
            refine ⟨0, by omega, rfl, ?_, (Below.refl _ _).alloc (Nat.le_refl _) _⟩
            rw [List.take_zero, setsFor, List.append_nil]
            exact orow_at (headC s) (heap1a _ _) rfl rfl (Nat.le_refl _) (by omega)
          case round =>
            obtain ⟨j, hj, rfl, hR, hbw⟩ := hrel
            have hwz := hbw.size
            have hbi : Below w.heap.size w wr := hb.trans (hbw.mono hwb)
            by_cases hjl : j < ss.length
            · rcases hS with hS | ⟨bS, oS, rfl, hS⟩
              · simp [hS] at hjl
              obtain ⟨p, hp⟩ : ∃ p, p = ss.getD j default := ⟨_, rfl⟩
              have gS := hS j hjl
              rw [← hp] at gS
              have hbS := World.block_lt_of_cell? _ _ gS.1
              have q1 : wr.cell? ⟨bS, oS + j * 2, none⟩ = some (.string p.1) := (hbi.cell hbS).trans gS.1
              have q2 : wr.cell? ⟨bS, oS + j * 2 + 1, none⟩ = some (.string p.2) := (hbi.cell (p := ⟨bS, oS + j * 2 + 1, none⟩) hbS).trans gS.2
              have HP : Hid (p = ss.getD j default) := hp
              obtain ⟨m, t⟩ := p
              dsimp only at q1 q2
              clear hp gS
              have hjl' : (j : Int) < (ss.length : Int) := by omega
              have hlen := setsFor_len s (ss.take j)
              have htk : (ss.take j).length = j := by simp; omega
              have HST : Hid (∀ x, x = (if sel s m then [t] else []) → headC s ++ setsFor s (ss.take (j + 1)) = headC s ++ setsFor s (ss.take j) ++ x) := by
                intro x hx
                rw [take_succ' ss j default hjl, setsFor_snoc, ← HP.out, hx, List.append_assoc]
              by_cases e1 : (m.toList == [42]) = true
              · have hsel : sel s m = true := by simp [sel, e1]
                go_wp2_with (first
                  | (at_builtin; refine Hid.out ?_)
                  | go_in)
                unfold Hid
                generalize hW : World.alloc _ _ = W
                have hB : Below wr.heap.size wr W := by rw [← hW]; exact ((Below.refl _ _).alloc (Nat.le_refl _) _).alloc (by simp) _
                have r3 : W.heap[wr.heap.size + 1]? = some (.cells #[.string t] 9 (0, 0)) := by rw [← hW]; exact heap2b _ _ _
                clear hW
                refine orow_append rfl (.tmp 74) (.tmp 77) rfl (ls := [t]) rfl (hR.below hB) rfl r3 rfl rfl (by simp [headC]; omega) (by omega) (by have := hB.size; omega) ?_
                intro v' w1 hR' hb1 _
                have hb2 : Below wo.heap.size wo w1 := (hbw.trans (hB.mono hwz)).trans hb1
                clear hb1 r3 hR hB
                go_wp2
                go_roundw
                case rel =>
                  refine ⟨j + 1, by omega, by go_num, ?_, hb2⟩
                  rw [HST.out [t] (by rw [hsel]; rfl)]
                  exact hR'
                case measure => simp [intOf]; omega
              · have e1' : (m.toList == [42]) = false := by simpa using e1
                clear e1
                by_cases e2 : (m.toList == s.toList) = true
                · have hsel : sel s m = true := by simp [sel, e2]
                  go_wp2_with (first
                    | (at_builtin; refine Hid.out ?_)
                    | go_in)
                  unfold Hid
                  generalize hW : World.alloc _ _ = W
                  have hB : Below wr.heap.size wr W := by rw [← hW]; exact ((Below.refl _ _).alloc (Nat.le_refl _) _).alloc (by simp) _
                  have r3 : W.heap[wr.heap.size + 1]? = some (.cells #[.string t] 9 (0, 0)) := by rw [← hW]; exact heap2b _ _ _
                  clear hW
                  refine orow_append rfl (.tmp 74) (.tmp 77) rfl (ls := [t]) rfl (hR.below hB) rfl r3 rfl rfl (by simp [headC]; omega) (by omega) (by have := hB.size; omega) ?_
                  intro v' w1 hR' hb1 _
                  have hb2 : Below wo.heap.size wo w1 := (hbw.trans (hB.mono hwz)).trans hb1
                  clear hb1 r3 hR hB
                  go_wp2
                  go_roundw
                  case rel =>
                    refine ⟨j + 1, by omega, by go_num, ?_, hb2⟩
                    rw [HST.out [t] (by rw [hsel]; rfl)]
                    exact hR'
                  case measure => simp [intOf]; omega
                · have e2' : (m.toList == s.toList) = false := by simpa using e2
                  have hsel : sel s m = false := by simp [sel, e1', e2']
                  clear e2
                  go_wp2
                  go_roundw
                  case rel =>
                    refine ⟨j + 1, by omega, by go_num, ?_, hbw.trans (((Below.refl _ _).alloc (Nat.le_refl _) _).mono hwz)⟩
                    rw [HST.out [] (by rw [hsel]; rfl), List.append_nil]
                    exact hR.below (below_alloc _ _)
                  case measure => simp [intOf]; omega
            · have hj' : j = ss.length := by omega
              subst hj'
              rw [List.take_length] at hR
              have hM2 := hM.below hbw
              have hR2 : ORow wr w.heap.size u8 (headC s ++ setsFor s ss) := World.ownsRow.mono hR hwb
              obtain ⟨q, hq⟩ : ∃ q, q = (setsFor s ss).length := ⟨_, rfl⟩
              have hq3 := setsFor_len s ss
              rw [← hq] at hq3
              have hlR : (headC s ++ setsFor s ss).length = 7 + q := by simp [headC, hq]; omega
              have hru : ∃ a c, u8 = .slice a (7 + q) c := by
                rcases hR2.2 with ⟨_, e⟩ | ⟨g, cap, _, e, _⟩
                · omega
                · exact ⟨_, _, by rw [e, hlR]⟩
              have HST : Hid (∀ x, x = (if setsFor s ss = [] then [] else [headC s ++ setsFor s ss]) → part1 nodes ++ part2 ss (nodes.take (k + 1)) = part1 nodes ++ part2 ss (nodes.take k) ++ x) := by
                intro x hx
                rw [take_succ' nodes k ByteArray.empty hlt, part2_snoc, ← HS.out, hx, List.append_assoc]
              obtain ⟨ra, rc, hru⟩ := hru
              have hp1 := part1_len nodes
              have hp2 := part2_len ss (nodes.take k)
              have htk : (nodes.take k).length = k := by simp; omega
              rw [hru] at hR2 ⊢
              clear hru hR
              by_cases hemp : setsFor s ss = []
              · have hq0 : ¬ (7 : Int) < 7 + (q : Int) := by rw [hq, hemp]; simp
                have hq1 : (q : Int) ≤ 0 := by rw [hq, hemp]; simp
                have HST2 : Hid (part1 nodes ++ part2 ss (nodes.take (k + 1)) = part1 nodes ++ part2 ss (nodes.take k)) := by
                  have := HST.out [] (by rw [if_pos hemp])
                  rw [List.append_nil] at this
                  exact this
                clear hemp hq hlR
                go_wp2
                go_roundw
                case rel =>
                  refine ⟨k + 1, by omega, by go_num, ?_, hbi⟩
                  rw [HST2.out]
                  exact hM2
                case measure => simp [intOf]; omega
              · have hq1 : 0 < (q : Int) := by rw [hq]; have := List.length_pos_iff.2 hemp; omega
                have HST2 : Hid (part1 nodes ++ part2 ss (nodes.take (k + 1)) = part1 nodes ++ part2 ss (nodes.take k) ++ [headC s ++ setsFor s ss]) := HST.out _ (by rw [if_neg hemp])
                clear hemp hq hlR
                go_wp2_with (first
                  | (at_builtin; refine Hid.out ?_)
                  | go_in)
                unfold Hid
                generalize hW : World.alloc _ _ = W
                have hB : Below wr.heap.size wr W := by rw [← hW]; exact (Below.refl _ _).alloc (Nat.le_refl _) _
                have r3 : W.heap[wr.heap.size]? = some (.cells #[.slice ra (7 + q) rc] 22 (0, 0)) := by rw [← hW]; exact heap1a _ _
                clear hW
                have hwr : w.heap.size ≤ wr.heap.size := hbi.size
                refine omat_append rfl (.tmp 84) (.tmp 86) rfl (ls := [headC s ++ setsFor s ss]) rfl (hM2.below hB) rfl r3 rfl rfl ?_ (by rw [List.length_append]; omega) (by omega) (by have := hB.size; omega) ?_
                · intro i hi
                  match i, hi with
                  | 0, _ => exact ⟨_, rfl, hR2.below hB⟩
                · intro v' w1 hM' hb1 _
                  have hb2 : Below w.heap.size w w1 := (hbi.trans (hB.mono hwr)).trans hb1
                  clear hb1 r3 hM hB hM2 hR2
                  go_wp2
                  go_roundw
                  case rel =>
                    refine ⟨k + 1, by omega, by go_num, ?_, hb2⟩
                    rw [HST2.out]
                    exact hM'
                  case measure => simp [intOf]; omega
        · have hk' : k = nodes.length := by omega
          subst hk'
          rw [List.take_length] at hM
          go_wp2_with fail
          refine wp_loop_rounds 1 ?_
          rw [rounds_succ]
          go_wp2_with fail
          refine wp_loop_rounds 1 ?_
          rw [rounds_succ]
          go_wp2_with fail
          go_ret
          exact ⟨_, rfl, hM, hb⟩

end Go.Proofs.YbulkcrxaDoor
