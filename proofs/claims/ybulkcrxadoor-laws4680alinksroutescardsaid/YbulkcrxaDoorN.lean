import Derived.Test.YbulkcrxaDoorU
import Derived.Deep.RegionLaw
import Derived.Deep.CutBlock
namespace Go.Proofs.YbulkcrxaDoor
open Go.RowKit

theorem step_append_own {P : Program} {ops : Array Oper} {o : Oper} {a : Act} {w : World} {K : Act → World → Prop} {Q : Exit → Act → World → Prop} {E : Prop}
    (hg : o.guard = none) (s x : Operand) (t : TypeId) (hop : o.op = Op.call { callee := Callee.builtin Builtin.append, args := #[s, x], argTypes := #[t, t] })
    (base : Nat) (e : TypeId) (i : TypeInfo) (z : Value) (size bytes : Nat) (h1 : P.underlying t = some (.slice e)) (h2 : P.info? e = some i) (h3 : i.zero = some z) (h4 : i.size = size) (h5 : i.bytes = bytes) (h6 : z.cells.size = size) (h7 : 0 < size)
    (v : Value) (n : Nat) (xs : List Value) (hs : a.eval s = v) (hown : w.ownsRow base e size v n xs)
    (ad : Addr) (m c : Nat) (news : List Value) (hx : a.eval x = .slice (some ad) m c) (hn : news.length = m * size) (hc : ∀ j u, news[j]? = some u → w.cell? (ad.add j) = some u) (h1c : ∀ u ∈ news, u.oneCell' = true)
    (b1 : n + m ≤ maxLen) (b2 : (n + m) * bytes ≤ 140737488355328) (hbase : base ≤ w.heap.size)
    (hK : ∀ v' w', w'.ownsRow base e size v' (n + m) (xs ++ news) → w.grownBy w' v.ownBlock → K (a.put o.dst v') w') :
    if Region.wanted o (yielded ops a.tmps) = true then Oper.wp P o a w K Q else E := by
  have hw : Region.wanted o (yielded ops a.tmps) = true := by simp [Region.wanted, hg]
  rw [if_pos hw]
  exact wp_append_own w s x t hop base e i z size bytes h1 h2 h3 h4 h5 h6 h7 v n xs hs hown ad m c news hx hn hc h1c b1 b2 hbase (fun v' w' a b _ => hK v' w' a b)

theorem info34 : (Ybad.prog.info? 34).map (fun i => (i.zero, i.size, i.bytes)) = some (some (.agg #[.string ⟨#[]⟩, .string ⟨#[]⟩]), 2, 32) := by kernel_rfl

def cellsOf2 (ss : List (ByteArray × ByteArray)) : List Value := ss.flatMap fun p => [.string p.1, .string p.2]
def OPairs (w : World) (base : Nat) (v : Value) (ss : List (ByteArray × ByteArray)) : Prop := w.ownsRow base 34 2 v ss.length (cellsOf2 ss)

theorem cellsOf2_at : ∀ (ss : List (ByteArray × ByteArray)) (i : Nat), i < ss.length → (cellsOf2 ss)[i * 2]? = some (.string (ss.getD i default).1) ∧ (cellsOf2 ss)[i * 2 + 1]? = some (.string (ss.getD i default).2)
  | [], _, h => by simp at h
  | p :: r, 0, _ => ⟨rfl, rfl⟩
  | p :: r, i + 1, h => by
    have ih := cellsOf2_at r i (by simpa using h)
    have e : cellsOf2 (p :: r) = [.string p.1, .string p.2] ++ cellsOf2 r := rfl
    rw [e, List.getElem?_append_right (by simp; omega), List.getElem?_append_right (by simp; omega)]
    refine ⟨?_, ?_⟩
    · rw [show (i + 1) * 2 - [Value.string p.1, Value.string p.2].length = i * 2 by simp; omega]; exact ih.1
    · rw [show (i + 1) * 2 + 1 - [Value.string p.1, Value.string p.2].length = i * 2 + 1 by simp; omega]; exact ih.2

theorem OPairs.pairs {w : World} {base : Nat} {v : Value} {ss : List (ByteArray × ByteArray)} (h : OPairs w base v ss) : Pairs w v ss := by
  rcases h.2 with ⟨rfl, hn⟩ | ⟨g, cap, cur, rfl, _, _⟩
  · exact ⟨none, 0, by rw [hn], .inl (List.eq_nil_of_length_eq_zero hn)⟩
  · refine ⟨some ⟨g, 0, none⟩, cap, rfl, .inr ⟨g, 0, rfl, fun i hi => ?_⟩⟩
    have e := cellsOf2_at ss i hi
    rw [Nat.zero_add, World.ownsRow.cellAt h (i * 2) (by omega), World.ownsRow.cellAt h (i * 2 + 1) (by omega)]
    exact e

theorem OPairs.push {w1 : World} {base : Nat} {v' : Value} {ss : List (ByteArray × ByteArray)} {p : ByteArray × ByteArray} (h : w1.ownsRow base 34 2 v' (ss.length + 1) (cellsOf2 ss ++ [.string p.1, .string p.2])) : OPairs w1 base v' (ss ++ [p]) := by
  unfold OPairs
  rw [List.length_append]
  simpa [cellsOf2] using h

/-- What came in as the law's second argument: of element i its number and its two strings. -/
def Sys (w : World) (v : Value) (n : Nat) (f : Nat → Int × ByteArray × ByteArray) : Prop :=
  ∃ a cap, v = .slice a n cap ∧ (n = 0 ∨ ∃ b off, a = some ⟨b, off, none⟩ ∧ ∀ i, i < n → w.cell? ⟨b, off + i * 3, none⟩ = some (.int .u8 (f i).1) ∧ w.cell? ⟨b, off + i * 3 + 1, none⟩ = some (.string (f i).2.1) ∧ w.cell? ⟨b, off + i * 3 + 2, none⟩ = some (.string (f i).2.2) ∧ 0 ≤ (f i).1 ∧ (f i).1 ≤ 255)

theorem ORow.shape {w : World} {base : Nat} {v : Value} {l : List ByteArray} (h : ORow w base v l) : ∃ a c, v = .slice a l.length c := by
  rcases h.2 with ⟨e, e2⟩ | ⟨_, _, _, e, _⟩
  · exact ⟨none, 0, by rw [e, e2]⟩
  · exact ⟨_, _, e⟩
theorem OPairs.shape {w : World} {base : Nat} {v : Value} {l : List (ByteArray × ByteArray)} (h : OPairs w base v l) : ∃ a c, v = .slice a l.length c := by
  rcases h.2 with ⟨e, e2⟩ | ⟨_, _, _, e, _⟩
  · exact ⟨none, 0, by rw [e, e2]⟩
  · exact ⟨_, _, e⟩

theorem Mat.below {w w' : World} {V : Value} {LL : List (List ByteArray)} (h : Mat w V LL) (hb : Below w.heap.size w w') : Mat w' V LL := by
  obtain ⟨a, cap, rfl, h⟩ := h
  refine ⟨a, cap, rfl, ?_⟩
  rcases h with h | ⟨b, off, rfl, h⟩
  · exact .inl h
  · refine .inr ⟨b, off, rfl, fun i hi => ?_⟩
    obtain ⟨v, hv, hr⟩ := h i hi
    exact ⟨v, (hb.cell (p := ⟨b, off + i, none⟩) (World.block_lt_of_cell? _ _ hv)).trans hv, hr.below hb⟩

theorem mem_part1 {l : List ByteArray} {x : List ByteArray} (h : x ∈ part1 l) : x.length ≤ 1000000 := by
  induction l with
  | nil => simp [part1] at h
  | cons a r ih =>
    simp only [part1, List.mem_cons] at h
    rcases h with rfl | rfl | h
    · simp [rowA]
    · simp [rowB]
    · exact ih h
theorem mem_part2 {ss : List (ByteArray × ByteArray)} (hls : ss.length ≤ 300) {l : List ByteArray} {x : List ByteArray} (h : x ∈ part2 ss l) : x.length ≤ 1000000 := by
  induction l with
  | nil => simp [part2] at h
  | cons a r ih =>
    simp only [part2] at h
    split at h
    · exact ih h
    · simp only [List.mem_cons] at h
      rcases h with rfl | h
      · have := setsFor_len a ss
        simp [headC]; omega
      · exact ih h
theorem rows_small (nodes : List ByteArray) (ss : List (ByteArray × ByteArray)) (hls : ss.length ≤ 300) (i : Nat) : ((part1 nodes ++ part2 ss nodes).getD i []).length ≤ 1000000 := by
  rw [List.getD_eq_getElem?_getD]
  cases h : (part1 nodes ++ part2 ss nodes)[i]? with
  | none => simp
  | some x =>
    have hx := List.mem_of_getElem? h
    rcases List.mem_append.1 hx with h | h
    · exact mem_part1 h
    · exact mem_part2 hls h

set_option maxHeartbeats 1000000 in
set_option maxRecDepth 100000 in
theorem nodes_walk (a0 : Option Addr) (nodes : List ByteArray) (cap0 : Nat) (v1 : Value) (n1 : Nat) (f : Nat → Int × ByteArray × ByteArray) (w : World)
    (hn : a0 = none → nodes = [] ∧ cap0 = 0) (hN : Strs w (.slice a0 nodes.length cap0) nodes) (hY : Sys w v1 n1 f) (hsz : ∀ i, (nodes.getD i ByteArray.empty).size ≤ 140737488351232) (hnl : nodes.length ≤ 9223372036854775807) (hn1 : n1 ≤ 9223372036854775807) :
    Calls Ybad.prog 3 #[.slice a0 nodes.length cap0, v1] w fun e w' => e = .returned (.bool true) ∧ Below w.heap.size w w' := by
  obtain ⟨i34, hi34, hz340, hz341, hz342⟩ := info_parts info34
  obtain ⟨a1, cap1, rfl, hY⟩ := hY
  by_cases hbig : 300 < nodes.length
  · go_enter Ybad.func3, Ybad.ntmps3
    go_wp2
    go_ret
    exact ⟨rfl, Below.refl _ _⟩
  by_cases hbig1 : 300 < n1
  · go_enter Ybad.func3, Ybad.ntmps3
    go_wp2
    go_ret
    exact ⟨rfl, Below.refl _ _⟩
  have hd0 : decide (300 < (nodes.length : Int)) = false := by simp; omega
  have hd1 : decide (300 < (n1 : Int)) = false := by simp; omega
  go_enter Ybad.func3, Ybad.ntmps3
  go_wp2_with fail
  refine (clone_any a0 nodes cap0 w hn hN (by omega)).mono ?_
  rintro e w1 ⟨vN, rfl, hR, hb⟩
  obtain ⟨aN, cN, hvN⟩ := hR.shape
  rw [hvN] at hR ⊢
  clear hvN
  go_wp2_with fail
  have hwb := hb.size
  have hnl3 : nodes.length ≤ 300 := by omega
  have hn13 : n1 ≤ 300 := by omega
  clear hbig hbig1 hnl hn1
  go_loopw [33] (fun i wr => ∃ (k : Nat) (vS : Value) (ss : List (ByteArray × ByteArray)), k ≤ n1 ∧ i = .int .i64 k ∧ ss.length = k ∧ OPairs wr (w1.heap.size + 1) vS ss ∧ wr.heap[w1.heap.size]? = some (.cells #[.slice aN nodes.length cN, vS, .slice none 0 0, .slice none 0 0] 30 (0, 0)) ∧ Below w1.heap.size w1 wr) (fun i _ => n1 - (intOf i).toNat)
  case atStart => exact ⟨0, .slice none 0 0, [], by omega, rfl, rfl, World.ownsRow_nil _ _ _ _, heap1a _ _, below_alloc _ _⟩
  case round =>
    obtain ⟨k, vS, ss, hk, rfl, hss, hP, hT, hbw⟩ := hrel
    have hbi : Below w.heap.size w wr := hb.trans (hbw.mono hwb)
    have hwz : w1.heap.size < wr.heap.size := (Array.getElem?_eq_some_iff.1 hT).1
    by_cases hlt : k < n1
    · rcases hY with hY | ⟨bY, oY, rfl, hY⟩
      · omega
      obtain ⟨aS, cS, hvS⟩ := hP.shape
      rw [hvS] at hP hT
      clear hvS vS
      obtain ⟨y0, y1, y2, hl0, hl1⟩ := hY k hlt
      obtain ⟨p, hp⟩ : ∃ p, p = f k := ⟨_, rfl⟩
      rw [← hp] at y0 y1 y2 hl0 hl1
      clear hp
      obtain ⟨pick, raw, st⟩ := p
      dsimp only at y0 y1 y2 hl0 hl1
      have hbY := World.block_lt_of_cell? _ _ y0
      have x0 : wr.cell? ⟨bY, oY + k * 3, none⟩ = some (.int .u8 pick) := (hbi.cell hbY).trans y0
      have x1 : wr.cell? ⟨bY, oY + k * 3 + 1, none⟩ = some (.string raw) := (hbi.cell (p := ⟨bY, oY + k * 3 + 1, none⟩) hbY).trans y1
      have x2 : wr.cell? ⟨bY, oY + k * 3 + 2, none⟩ = some (.string st) := (hbi.cell (p := ⟨bY, oY + k * 3 + 2, none⟩) hbY).trans y2
      clear y0 y1 y2
      have hlt' : (k : Int) < (n1 : Int) := by omega
      -- the switch leaves some string in slot 8
      go_upto_block 2 with fail
      go_cut [8] (fun v wc => ∃ nd : ByteArray, v = .string nd ∧ wc = wr.alloc (.cells #[.int .u8 pick, .string raw, .string st] 32))
      case first =>
        by_cases h0 : pick % 3 = 0
        · have h0' : (pick % 3 == 0) = true := by simp [h0]
          clear h0
          go_wp2
          go_meet
          case rel => exact ⟨_, rfl, rfl⟩
        · have h0' : (pick % 3 == 0) = false := by simp [h0]
          clear h0
          by_cases h1 : pick % 3 = 1
          · have h1' : (pick % 3 == 1) = true := by simp [h1]
            clear h1
            by_cases hz : nodes.length = 0
            · have hz' : ¬ (0 : Int) < (nodes.length : Int) := by omega
              clear hz
              go_wp2
              go_meet
              case rel => exact ⟨_, rfl, rfl⟩
            · have hz' : (0 : Int) < (nodes.length : Int) := by omega
              have hz2 : ¬ (nodes.length : Int) = 0 := by omega
              have hm1 : 0 ≤ pick / 3 % (nodes.length : Int) := Int.emod_nonneg _ hz2
              have hm2 : pick / 3 % (nodes.length : Int) < (nodes.length : Int) := Int.emod_lt_of_pos _ hz'
              obtain ⟨a', c', he, hN'⟩ := hN
              simp only [Value.slice.injEq, true_and] at he
              obtain ⟨rfl, rfl⟩ := he
              rcases hN' with hN' | ⟨bN, oN, rfl, hN'⟩
              · simp [hN'] at hz
              have gN := hN' (pick / 3 % (nodes.length : Int)).toNat (by omega)
              have hbN := World.block_lt_of_cell? _ _ gN
              have gN2 : wr.cell? ⟨bN, oN + (pick / 3 % (nodes.length : Int)).toNat, none⟩ = _ := (hbi.cell (p := ⟨bN, oN + (pick / 3 % (nodes.length : Int)).toNat, none⟩) hbN).trans gN
              have hbN2 : bN < wr.heap.size := Nat.lt_of_lt_of_le hbN hbi.size
              generalize nodes.getD (pick / 3 % (nodes.length : Int)).toNat ByteArray.empty = nd at gN2
              clear gN
              go_wp2
              go_meet
              case rel => exact ⟨_, rfl, rfl⟩
          · have h1' : (pick % 3 == 1) = false := by simp [h1]
            clear h1
            go_wp2
            go_meet
            case rel => exact ⟨_, rfl, rfl⟩
      case rest =>
        obtain ⟨nd, rfl, hwc⟩ := hcut
        rw [hwc]
        clear hwc
        have HK : Hid (ss.length = k) := hss
        clear hss
        have hls : ss.length ≤ 300 := by rw [HK.out]; omega
        have c1 : wr.cell? ⟨w1.heap.size, 1, none⟩ = some (.slice aS ss.length cS) := cell_of_row _ _ _ _ _ _ hT
        have hcc : ∀ j u, [Value.string nd, .string st][j]? = some u → (((wr.alloc (.cells #[.int .u8 pick, .string raw, .string st] 32)).alloc (.cells #[.string nd, .string st] 34)).drew).cell? ((⟨wr.heap.size + 1, 0, none⟩ : Addr).add j) = some u := by
          intro j u hj
          rw [World.cell?_drew, cell_at (heap2b _ _ _)]
          simpa using hj
        have hTc : ∀ w', (((wr.alloc (.cells #[.int .u8 pick, .string raw, .string st] 32)).alloc (.cells #[.string nd, .string st] 34)).drew).grownBy w' (Value.ownBlock (.slice aS ss.length cS)) → w'.heap[w1.heap.size]? = some (.cells #[.slice aN nodes.length cN, .slice aS ss.length cS, .slice none 0 0, .slice none 0 0] 30 (0, 0)) := by
          intro w' hg
          rw [hg.block _ (by simp; omega) (fun e => by have := (hP.lt _ e.symm).1; omega)]
          show ((wr.alloc _).alloc _).heap[_]? = _
          rw [heap_past _ _ _ (by simp; omega), heap_past _ _ _ hwz]
          exact hT
        go_wp2_with fail
        go_region_law (refine step_append_own rfl (.tmp 64) (.tmp 69) 26 rfl (w1.heap.size + 1) 34 i34 (.agg #[.string ⟨#[]⟩, .string ⟨#[]⟩]) 2 32 Ybad.underlying26 hi34 hz340 hz341 hz342 rfl (by decide) (.slice aS ss.length cS) ss.length (cellsOf2 ss) (by simp [Act.eval]) ((World.ownsRow.alloc (World.ownsRow.alloc hP _) _).drew) ⟨wr.heap.size + 1, 0, none⟩ 1 1 [.string nd, .string st] (by simp [Act.eval]) rfl hcc (by intro u hu; simp at hu; rcases hu with rfl | rfl <;> rfl) (by unfold maxLen; omega) (by omega) (by simp; omega) ?_; intro v' w' ho hg; have hT' := hTc w' hg; have hP' := OPairs.push (p := (nd, st)) ho; obtain ⟨aV, cV, hv⟩ := hP'.shape; rw [hv] at hP' ⊢; have hc1 : w'.cell? ⟨w1.heap.size, 1, none⟩ = some (.slice aS ss.length cS) := cell_of_row _ _ _ _ _ _ hT'; have hf1 : w'.frozen? ⟨w1.heap.size, 1, none⟩ = false := frozen_of_row _ _ _ _ _ hT')
        all_goals
          have hb3 : Below w1.heap.size w1 w' := (((hbw.alloc (by omega) _).alloc (by simp; omega) _).drew).grown hg (by simp; omega) (fun x hx => by have := (hP.lt x hx).1; omega)
          clear hTc hcc ho hg
          go_wp2
          go_roundw
          case rel =>
            refine ⟨k + 1, _, ss ++ [(nd, st)], by omega, by go_num, by rw [List.length_append, HK.out]; rfl, ownsRow_setCell_below hP' (by show w1.heap.size < _; omega) _, ?_, hb3.setCell (Nat.le_refl _) _⟩
            rw [heap_setCell_same _ _ _ _ _ _ hT', List.length_append]
            rfl
          case measure => simp [intOf]; omega
    · have hk' : k = n1 := by omega
      subst hk'
      have HK : Hid (ss.length = k) := hss
      have hls : ss.length ≤ 300 := by omega
      clear hss
      have hRw := hR.below hbw
      have d0 : wr.cell? ⟨w1.heap.size, 0, none⟩ = some (.slice aN nodes.length cN) := cell_of_row _ _ _ _ _ _ hT
      have d1 : wr.cell? ⟨w1.heap.size, 1, none⟩ = some vS := cell_of_row _ _ _ _ _ _ hT
      have d2 : wr.cell? ⟨w1.heap.size, 2, none⟩ = some (.slice none 0 0) := cell_of_row _ _ _ _ _ _ hT
      have d3 : wr.cell? ⟨w1.heap.size, 3, none⟩ = some (.slice none 0 0) := cell_of_row _ _ _ _ _ _ hT
      go_wp2_with fail
      refine (up_nodes w1.heap.size _ vS nodes ss wr d0 d1 d2 d3 hRw.strs hP.pairs hnl3 hls hsz).mono ?_
      rintro e w2 ⟨V, rfl, hG, hb2⟩
      obtain ⟨aS, cS, hvS⟩ := hP.shape
      rw [hvS] at hP hT
      clear hvS d0 d1 d2 d3
      have hwr : w1.heap.size < wr.heap.size := hwz
      have hT2 : w2.heap[w1.heap.size]? = some (.cells #[.slice aN nodes.length cN, .slice aS ss.length cS, .slice none 0 0, .slice none 0 0] 30 (0, 0)) := (hb2.block _ hwr).trans hT
      have hP2 : Pairs w2 (.slice aS ss.length cS) ss := OPairs.pairs (base := w1.heap.size + 1) (owns_below hP hb2)
      have hR2 : Strs w2 (.slice aN nodes.length cN) nodes := (hRw.below hb2).strs
      have hbw2 : Below w.heap.size w w2 := hbi.trans (hb2.mono hbi.size)
      have hN2 : Strs w2 (.slice a0 nodes.length cap0) nodes := hN.below hbw2
      have hG2 : Mat w2 V (part1 nodes ++ part2 ss nodes) := hG.mat
      have hT1 : w1.heap.size < w2.heap.size := (Array.getElem?_eq_some_iff.1 hT2).1
      clear hP hT hRw hR hb2 hbw hG hN hbi hlt hk hY hn hb
      go_wp2_with fail
      go_loopw [10, 78] (fun U i wr => ∃ j : Nat, j ≤ nodes.length ∧ i = .int .i64 j ∧ OMat wr w2.heap.size U (part1 (nodes.take j)) ∧ Below w2.heap.size w2 wr) (fun _ i _ => nodes.length - (intOf i).toNat)
      case atStart => exact ⟨0, by omega, rfl, OMat.nil _ _, Below.refl _ _⟩
      case round =>
        obtain ⟨j, hj, rfl, hM, hb⟩ := hrel
        have hwb3 := hb.size
        by_cases hlt : j < nodes.length
        · obtain ⟨a', c', he, hN'⟩ := hN2
          simp only [Value.slice.injEq, true_and] at he
          obtain ⟨rfl, rfl⟩ := he
          rcases hN' with hN' | ⟨bN, oN, rfl, hN'⟩
          · simp [hN'] at hlt
          obtain ⟨s, hs⟩ : ∃ s, s = nodes.getD j ByteArray.empty := ⟨_, rfl⟩
          have g := hN' j hlt
          have hss := hsz j
          rw [← hs] at g hss
          have hbN := World.block_lt_of_cell? _ _ g
          have g' : wr.cell? ⟨bN, oN + j, none⟩ = some (.string s) := (hb.cell hbN).trans g
          have HS : Hid (s = nodes.getD j ByteArray.empty) := hs
          clear hs g
          have hlt' : (j : Int) < (nodes.length : Int) := by omega
          have hp := part1_len (nodes.take j)
          have htk : (nodes.take j).length = j := by simp; omega
          go_wp2_with (first
            | (at_builtin; refine Hid.out ?_)
            | go_in)
          unfold Hid
          generalize hW : World.alloc _ _ = W
          have hB : Below wr.heap.size wr W := by rw [← hW]; exact ((Below.refl _ _).alloc (Nat.le_refl _) _).alloc (by simp) _
          have r1 : ORow W w2.heap.size (.slice (some ⟨wr.heap.size, 0, none⟩) 4 4) (rowA s) := orow_at (rowA s) (by rw [← hW]; exact heap2a _ _ _) rfl rfl hwb3 (by omega)
          have r3 : W.heap[wr.heap.size + 1]? = some (.cells #[.slice (some ⟨wr.heap.size, 0, none⟩) 4 4] 22 (0, 0)) := by rw [← hW]; exact heap2b _ _ _
          clear hW
          refine omat_append rfl (.tmp 82) (.tmp 86) rfl (ls := [rowA s]) rfl (hM.below hB) rfl r3 rfl rfl ?_ (by omega) (by omega) (by have := hB.size; omega) ?_
          · intro i hi
            match i, hi with
            | 0, _ => exact ⟨_, rfl, r1⟩
          intro V1 w3 hM1 hb1 _
          have hb3 : Below w2.heap.size w2 w3 := (hb.trans (hB.mono hwb3)).trans hb1
          clear hb1 r1 r3 hM hB
          have hwb4 := hb3.size
          go_wp2_with (first
            | (at_builtin; refine Hid.out ?_)
            | go_in)
          unfold Hid
          generalize hW : World.alloc _ _ = W
          have hB : Below w3.heap.size w3 W := by rw [← hW]; exact ((Below.refl _ _).alloc (Nat.le_refl _) _).alloc (by simp) _
          have r1 : ORow W w2.heap.size (.slice (some ⟨w3.heap.size, 0, none⟩) 7 7) (rowB s) := orow_at (rowB s) (by rw [← hW]; exact heap2a _ _ _) rfl rfl hwb4 (by omega)
          have r3 : W.heap[w3.heap.size + 1]? = some (.cells #[.slice (some ⟨w3.heap.size, 0, none⟩) 7 7] 22 (0, 0)) := by rw [← hW]; exact heap2b _ _ _
          clear hW
          refine omat_append rfl (.tmp 88) (.tmp 92) rfl (ls := [rowB s]) rfl (hM1.below hB) rfl r3 rfl rfl ?_ (by rw [List.length_append]; simp; omega) (by omega) (by have := hB.size; omega) ?_
          · intro i hi
            match i, hi with
            | 0, _ => exact ⟨_, rfl, r1⟩
          intro V2 w4 hM2 hb1 _
          have hb4 : Below w2.heap.size w2 w4 := (hb3.trans (hB.mono hwb4)).trans hb1
          clear hb1 r1 r3 hM1 hB
          go_wp2
          go_roundw
          case rel =>
            refine ⟨j + 1, by omega, by go_num, ?_, hb4⟩
            rw [take_succ' nodes j ByteArray.empty hlt, part1_snoc, ← HS.out]
            simpa using hM2
          case measure => simp [intOf]; omega
        · have hj' : j = nodes.length := by omega
          subst hj'
          rw [List.take_length] at hM
          clear hlt hj
          go_wp2_with fail
          go_loopw [10, 97] (fun U i wr => ∃ j : Nat, j ≤ nodes.length ∧ i = .int .i64 j ∧ OMat wr w2.heap.size U (part1 nodes ++ part2 ss (nodes.take j)) ∧ Below w2.heap.size w2 wr) (fun _ i _ => nodes.length - (intOf i).toNat)
          case atStart => exact ⟨0, by omega, rfl, by simpa [part2] using hM, hb⟩
          case round =>
            clear hM hb hwb3
            obtain ⟨j, hj, rfl, hM, hb⟩ := hrel
            have hwb3 := hb.size
            by_cases hlt : j < nodes.length
            · obtain ⟨a', c', he, hN'⟩ := hN2
              simp only [Value.slice.injEq, true_and] at he
              obtain ⟨rfl, rfl⟩ := he
              rcases hN' with hN' | ⟨bN, oN, rfl, hN'⟩
              · simp [hN'] at hlt
              obtain ⟨s, hs⟩ : ∃ s, s = nodes.getD j ByteArray.empty := ⟨_, rfl⟩
              have g := hN' j hlt
              have hss := hsz j
              rw [← hs] at g hss
              have hbN := World.block_lt_of_cell? _ _ g
              have g' : wr.cell? ⟨bN, oN + j, none⟩ = some (.string s) := (hb.cell hbN).trans g
              have HS : Hid (s = nodes.getD j ByteArray.empty) := hs
              clear hs g
              have hlt' : (j : Int) < (nodes.length : Int) := by omega
              obtain ⟨wo, hwo⟩ : ∃ wo : World, wo = wr := ⟨_, rfl⟩
              rw [← hwo] at hM hb g' hwb3
              rw [← hwo]
              clear hwo wr
              go_wp2_with fail
              go_loopw [15, 16, 17] (fun v c i wi => ∃ x : Nat, x ≤ ss.length ∧ i = .int .i64 x ∧ c = .int .i64 ((setsFor s (ss.take x)).length : Nat) ∧ ORow wi wo.heap.size v (headC s ++ setsFor s (ss.take x)) ∧ Below wo.heap.size wo wi) (fun _ _ i _ => ss.length - (intOf i).toNat)
              case atStart =>
                refine ⟨0, by omega, rfl, rfl, ?_, (Below.refl _ _).alloc (Nat.le_refl _) _⟩
                rw [List.take_zero, setsFor, List.append_nil]
                exact orow_at (headC s) (heap1a _ _) rfl rfl (Nat.le_refl _) (by omega)
              case round =>
                obtain ⟨x, hx, rfl, rfl, hR, hbw⟩ := hrel
                have hwz := hbw.size
                have hbi : Below w2.heap.size w2 wr := hb.trans (hbw.mono hwb3)
                have tc : wr.cell? ⟨w1.heap.size, 1, none⟩ = some (.slice aS ss.length cS) := (hbi.cell (p := ⟨w1.heap.size, 1, none⟩) hT1).trans (cell_of_row _ _ _ _ _ _ hT2)
                by_cases hjl : x < ss.length
                · obtain ⟨a', c', he, hP'⟩ := hP2
                  simp only [Value.slice.injEq, true_and] at he
                  obtain ⟨rfl, rfl⟩ := he
                  rcases hP' with hS | ⟨bS, oS, rfl, hS⟩
                  · simp [hS] at hjl
                  obtain ⟨p, hp⟩ : ∃ p, p = ss.getD x default := ⟨_, rfl⟩
                  have gS := hS x hjl
                  rw [← hp] at gS
                  have hbS := World.block_lt_of_cell? _ _ gS.1
                  have q1 : wr.cell? ⟨bS, oS + x * 2, none⟩ = some (.string p.1) := (hbi.cell hbS).trans gS.1
                  have q2 : wr.cell? ⟨bS, oS + x * 2 + 1, none⟩ = some (.string p.2) := (hbi.cell (p := ⟨bS, oS + x * 2 + 1, none⟩) hbS).trans gS.2
                  have HP : Hid (p = ss.getD x default) := hp
                  obtain ⟨m, t⟩ := p
                  dsimp only at q1 q2
                  clear hp gS
                  have hjl' : (x : Int) < (ss.length : Int) := by omega
                  have hlen := setsFor_len s (ss.take x)
                  have htk : (ss.take x).length = x := by simp; omega
                  have HST : Hid (∀ y, y = (if sel s m then [t] else []) → setsFor s (ss.take (x + 1)) = setsFor s (ss.take x) ++ y) := by
                    intro y hy
                    rw [take_succ' ss x default hjl, setsFor_snoc, ← HP.out, hy]
                  by_cases e2 : (m.toList == s.toList) = true
                  · have hsel : sel s m = true := by simp [sel, e2]
                    go_wp2_with (first
                      | (at_builtin; refine Hid.out ?_)
                      | go_in)
                    unfold Hid
                    generalize hW : World.alloc _ _ = W
                    have hB : Below wr.heap.size wr W := by rw [← hW]; exact (Below.refl _ _).alloc (Nat.le_refl _) _
                    have r3 : W.heap[wr.heap.size]? = some (.cells #[.string t] 9 (0, 0)) := by rw [← hW]; exact heap1a _ _
                    clear hW
                    refine orow_append rfl (.tmp 128) (.tmp 137) rfl (ls := [t]) rfl (hR.below hB) rfl r3 rfl rfl (by simp [headC]; omega) (by omega) (by have := hB.size; omega) ?_
                    intro v' w5 hR' hb1 _
                    have hb5 : Below wo.heap.size wo w5 := (hbw.trans (hB.mono hwz)).trans hb1
                    clear hb1 r3 hR hB
                    go_wp2
                    go_roundw
                    case rel =>
                      refine ⟨x + 1, by omega, by go_num, ?_, ?_, hb5⟩
                      · rw [HST.out [t] (by rw [hsel]; rfl), List.length_append]; go_num
                      · rw [HST.out [t] (by rw [hsel]; rfl), ← List.append_assoc]
                        exact hR'
                    case measure => simp [intOf]; omega
                  · have e2' : (m.toList == s.toList) = false := by simpa using e2
                    clear e2
                    by_cases e1 : (m.toList == [42]) = true
                    · have hsel : sel s m = true := by simp [sel, e1]
                      go_wp2_with (first
                        | (at_builtin; refine Hid.out ?_)
                        | go_in)
                      unfold Hid
                      generalize hW : World.alloc _ _ = W
                      have hB : Below wr.heap.size wr W := by rw [← hW]; exact (Below.refl _ _).alloc (Nat.le_refl _) _
                      have r3 : W.heap[wr.heap.size]? = some (.cells #[.string t] 9 (0, 0)) := by rw [← hW]; exact heap1a _ _
                      clear hW
                      refine orow_append rfl (.tmp 128) (.tmp 137) rfl (ls := [t]) rfl (hR.below hB) rfl r3 rfl rfl (by simp [headC]; omega) (by omega) (by have := hB.size; omega) ?_
                      intro v' w5 hR' hb1 _
                      have hb5 : Below wo.heap.size wo w5 := (hbw.trans (hB.mono hwz)).trans hb1
                      clear hb1 r3 hR hB
                      go_wp2
                      go_roundw
                      case rel =>
                        refine ⟨x + 1, by omega, by go_num, ?_, ?_, hb5⟩
                        · rw [HST.out [t] (by rw [hsel]; rfl), List.length_append]; go_num
                        · rw [HST.out [t] (by rw [hsel]; rfl), ← List.append_assoc]
                          exact hR'
                      case measure => simp [intOf]; omega
                    · have e1' : (m.toList == [42]) = false := by simpa using e1
                      have hsel : sel s m = false := by simp [sel, e1', e2']
                      clear e1
                      go_wp2
                      go_roundw
                      case rel =>
                        refine ⟨x + 1, by omega, by go_num, ?_, ?_, hbw⟩
                        · rw [HST.out [] (by rw [hsel]; rfl), List.append_nil]
                        · rw [HST.out [] (by rw [hsel]; rfl), List.append_nil]
                          exact hR
                      case measure => simp [intOf]; omega
                · have hx' : x = ss.length := by omega
                  subst hx'
                  rw [List.take_length] at hR ⊢
                  have hM2 := hM.below hbw
                  have hR3 : ORow wr w2.heap.size u15 (headC s ++ setsFor s ss) := World.ownsRow.mono hR hwb3
                  have hq3 := setsFor_len s ss
                  have HST : Hid (∀ y, y = (if setsFor s ss = [] then [] else [headC s ++ setsFor s ss]) → part1 nodes ++ part2 ss (nodes.take (j + 1)) = part1 nodes ++ part2 ss (nodes.take j) ++ y) := by
                    intro y hy
                    rw [take_succ' nodes j ByteArray.empty hlt, part2_snoc, ← HS.out, hy, List.append_assoc]
                  have hp1 := part1_len nodes
                  have hp2 := part2_len ss (nodes.take j)
                  have htk : (nodes.take j).length = j := by simp; omega
                  obtain ⟨ra, rc, hru⟩ := hR3.shape
                  obtain ⟨q, hq⟩ : ∃ q, q = (headC s ++ setsFor s ss).length := ⟨_, rfl⟩
                  rw [← hq] at hru
                  rw [hru] at hR3 ⊢
                  clear hru hR hq
                  by_cases hemp : setsFor s ss = []
                  · have hq1 : ¬ (0 : Int) < ((setsFor s ss).length : Int) := by rw [hemp]; simp
                    have HST2 : Hid (part1 nodes ++ part2 ss (nodes.take (j + 1)) = part1 nodes ++ part2 ss (nodes.take j)) := by
                      have := HST.out [] (by rw [if_pos hemp])
                      rw [List.append_nil] at this
                      exact this
                    clear hemp
                    go_wp2
                    go_roundw
                    case rel =>
                      refine ⟨j + 1, by omega, by go_num, ?_, hbi⟩
                      rw [HST2.out]
                      exact hM2
                    case measure => simp [intOf]; omega
                  · have hq1 : (0 : Int) < ((setsFor s ss).length : Int) := by have := List.length_pos_iff.2 hemp; omega
                    have HST2 : Hid (part1 nodes ++ part2 ss (nodes.take (j + 1)) = part1 nodes ++ part2 ss (nodes.take j) ++ [headC s ++ setsFor s ss]) := HST.out _ (by rw [if_neg hemp])
                    clear hemp
                    go_wp2_with (first
                      | (at_builtin; refine Hid.out ?_)
                      | go_in)
                    unfold Hid
                    generalize hW : World.alloc _ _ = W
                    have hB : Below wr.heap.size wr W := by rw [← hW]; exact (Below.refl _ _).alloc (Nat.le_refl _) _
                    have r3 : W.heap[wr.heap.size]? = some (.cells #[.slice ra q rc] 22 (0, 0)) := by rw [← hW]; exact heap1a _ _
                    clear hW
                    have hwr2 : w2.heap.size ≤ wr.heap.size := hbi.size
                    refine omat_append rfl (.tmp 143) (.tmp 145) rfl (ls := [headC s ++ setsFor s ss]) rfl (hM2.below hB) rfl r3 rfl rfl ?_ (by rw [List.length_append]; omega) (by omega) (by have := hB.size; omega) ?_
                    · intro i hi
                      match i, hi with
                      | 0, _ => exact ⟨_, rfl, hR3.below hB⟩
                    · intro v' w5 hM' hb1 _
                      have hb5 : Below w2.heap.size w2 w5 := (hbi.trans (hB.mono hwr2)).trans hb1
                      clear hb1 r3 hM hB hM2 hR3
                      go_wp2
                      go_roundw
                      case rel =>
                        refine ⟨j + 1, by omega, by go_num, ?_, hb5⟩
                        rw [HST2.out]
                        exact hM'
                      case measure => simp [intOf]; omega
            · have hj' : j = nodes.length := by omega
              subst hj'
              rw [List.take_length] at hM
              have M1 : Mat wr V (part1 nodes ++ part2 ss nodes) := hG2.below hb
              have M2 : Mat wr u10 (part1 nodes ++ part2 ss nodes) := hM.mat
              have S1 : Strs wr (.slice aN nodes.length cN) nodes := hR2.below hb
              have S2 : Strs wr (.slice a0 nodes.length cap0) nodes := hN2.below hb
              have t0 : wr.cell? ⟨w1.heap.size, 0, none⟩ = some (.slice aN nodes.length cN) := (hb.cell (p := ⟨w1.heap.size, 0, none⟩) hT1).trans (cell_of_row _ _ _ _ _ _ hT2)
              have t1 : wr.cell? ⟨w1.heap.size, 1, none⟩ = some (.slice aS ss.length cS) := (hb.cell (p := ⟨w1.heap.size, 1, none⟩) hT1).trans (cell_of_row _ _ _ _ _ _ hT2)
              have hfin : Below w.heap.size w wr := hbw2.trans (hb.mono hbw2.size)
              have hlA := part1_len nodes
              have hlB := part2_len ss nodes
              have heq : ((ss.length : Int) == (k : Int)) = true := by rw [HK.out]; simp
              clear hM hb hG2 hR2 hN2 hT2 hP2 hbw2 hlt hj hwb3
              go_wp2_with fail
              refine (zzeq_same V u10 _ wr M1 M2 (by rw [List.length_append]; omega) (rows_small nodes ss hls)).mono ?_
              rintro e w3 ⟨rfl, n3, hw3⟩
              have S1' : Strs w3 (.slice aN nodes.length cN) nodes := by rw [hw3]; exact S1
              have S2' : Strs w3 (.slice a0 nodes.length cap0) nodes := by rw [hw3]; exact S2
              have t0' : w3.cell? ⟨w1.heap.size, 0, none⟩ = some (.slice aN nodes.length cN) := by rw [hw3]; exact t0
              have t1' : w3.cell? ⟨w1.heap.size, 1, none⟩ = some (.slice aS ss.length cS) := by rw [hw3]; exact t1
              have hfin' : Below w.heap.size w w3 := by rw [hw3]; exact ⟨hfin.os, hfin.tape, hfin.output, hfin.size, hfin.block⟩
              clear hw3 M1 M2 S1 S2 t0 t1 hfin
              go_wp2_with fail
              refine (equal_same _ _ nodes w3 S1' S2' (by omega)).mono ?_
              rintro e w4 ⟨rfl, n4, hw4⟩
              have t1'' : w4.cell? ⟨w1.heap.size, 1, none⟩ = some (.slice aS ss.length cS) := by rw [hw4]; exact t1'
              have hfin'' : Below w.heap.size w w4 := by rw [hw4]; exact ⟨hfin'.os, hfin'.tape, hfin'.output, hfin'.size, hfin'.block⟩
              clear hw4
              go_wp2
              go_ret
              exact ⟨rfl, hfin''⟩

end Go.Proofs.YbulkcrxaDoor
