import Derived.Test.YbulkcrxaDoorS
import Derived.Deep.DeepCutAuto
import Derived.Deep.CutBlock
namespace Go.Proofs.YbulkcrxaDoor
open Go.RowKit
attribute [local go_sem ↓] Go.wp_at_zero Go.wp_at_succ

def endsOf (pa pb : ByteArray) : Nat → List (List ByteArray)
  | 0 => []
  | 1 => endRows pa pb
  | _ => endRows pa pb ++ endRows pb pa

theorem below_drew3 (w : World) (a b c : Obj) : Below w.heap.size w (((w.alloc a).alloc b).alloc c).drew := (below_al0 (below_al0 (below_al0 (Below.refl w.heap.size w)))).drew
theorem hops_len : ∀ j, (hops j).length = 3 * j
  | 0 => rfl
  | j + 1 => by
    show (hops j ++ _).length = _
    rw [List.length_append, hops_len j]; simp; omega
theorem routeRow_len (n : ByteArray) (g : Nat) (h : g ≤ 4) : (routeRow n g).length ≤ 20 := by
  unfold routeRow
  rw [List.length_append]
  split
  · simp [routeHead]
  · rw [hops_len]; simp [routeHead]; omega
theorem routesCmds_app (a b : List (ByteArray × Nat)) : routesCmds (a ++ b) = routesCmds a ++ routesCmds b := by simp [routesCmds]
theorem info63z : (Ybad.prog.info? 63).map (fun i => (i.zero, i.size)) = some (some (.agg (routeCells (⟨#[]⟩, 0, .slice none 0 0)).toArray), 6) := by kernel_rfl
theorem one6 (a : ByteArray) (n : Nat) (s : Option Addr) (k c : Nat) : ∀ v ∈ routeCells (a, n, .slice s k c), v.oneCell' = true := by
  intro v hv
  simp only [routeCells, List.mem_cons, List.not_mem_nil, or_false] at hv
  rcases hv with h | h | h | h | h | h <;> rw [h] <;> rfl

set_option maxHeartbeats 2000000 in
set_option maxRecDepth 100000 in
theorem up_links (T : Nat) (vL vR : Value) (ls : List (ByteArray × ByteArray)) (rs : List (ByteArray × Nat × Value)) (w : World)
    (c0 : w.cell? ⟨T, 0, none⟩ = some (.slice none 0 0)) (_c1 : w.cell? ⟨T, 1, none⟩ = some (.slice none 0 0)) (c2 : w.cell? ⟨T, 2, none⟩ = some vL) (c3 : w.cell? ⟨T, 3, none⟩ = some vR)
    (hL : Links w vL ls) (hR : Routes w vR rs) (hll : ls.length ≤ 300) (hlr : rs.length ≤ 300) (hsz : ∀ i, (ls.getD i default).1.size ≤ 140737488351232 ∧ (ls.getD i default).2.size ≤ 140737488351232)
    (hsr : ∀ i, (rs.getD i default).1.size ≤ 140737488351232 ∧ (rs.getD i default).2.1 ≤ 4) (hz : w.cell? ⟨2, 0, none⟩ = some (.pointer none)) :
    Calls Ybad.prog 6 #[.pointer (some ⟨T, 0, none⟩)] w fun e w' => ∃ V, e = .returned V ∧ OMat w' w.heap.size V (linksCmds ls ++ routesCmds (rs.map fun p => (p.1, p.2.1))) ∧ Below w.heap.size w w' := by
  obtain ⟨aL, capL, rfl, hL⟩ := hL
  obtain ⟨aR, capR, rfl, hR⟩ := hR
  have hT := World.block_lt_of_cell? _ _ c0
  have h2 := World.block_lt_of_cell? _ _ hz
  go_enter Ybad.func6, Ybad.ntmps6
  go_wp2_with fail
  refine wp_loop_rounds 1 ?_
  rw [rounds_succ]
  go_wp2_with fail
  refine wp_loop_rounds 1 ?_
  rw [rounds_succ]
  go_wp2_with fail
  go_loopw [3, 94] (fun V i wr => ∃ k : Nat, k ≤ ls.length ∧ i = .int .i64 k ∧ OMat wr w.heap.size V (linksCmds (ls.take k)) ∧ Below w.heap.size w wr) (fun _ i _ => ls.length - (intOf i).toNat)
  case atStart => exact ⟨0, by omega, rfl, OMat.nil _ _, Below.refl _ _⟩
  case round =>
    obtain ⟨k, hk, rfl, hM, hb⟩ := hrel
    have hwb := hb.size
    by_cases hlt : k < ls.length
    · rcases hL with hL | ⟨bL, oL, rfl, hL⟩
      · simp [hL] at hlt
      obtain ⟨p, hp⟩ : ∃ p, p = ls.getD k default := ⟨_, rfl⟩
      have g := hL k hlt
      have hss := hsz k
      rw [← hp] at g hss
      have HP : Hid (p = ls.getD k default) := hp
      clear hp
      obtain ⟨pa, pb⟩ := p
      dsimp only at hss
      obtain ⟨hsa, hsb⟩ := hss
      have hbL : bL < w.heap.size := World.block_lt_of_cell? w ⟨bL, oL + k * 18 + 0, none⟩ (g 0 (by omega))
      have g' : ∀ j, j < 18 → wr.cell? ⟨bL, oL + k * 18 + j, none⟩ = (linkCells (pa, pb))[j]? := fun j hj => (hb.cell (p := ⟨bL, oL + k * 18 + j, none⟩) hbL).trans (g j hj)
      have hrg : wr.rangeAt bL (oL + k * 18) (linkCells (pa, pb)) := by
        intro j v hv
        have hj : j < 18 := by have := (List.getElem?_eq_some_iff.1 hv).1; rw [linkCells_len] at this; exact this
        rw [g' j hj]; exact hv
      clear g g'
      have hltk := hlt
      have hlt' : (k : Int) < (ls.length : Int) := by omega
      go_wp2_with (first
        | (refine wpList_copy 58 (.tmp 96) 97 13 rfl rfl rfl rfl rfl rfl rfl rfl rfl bL (oL + k * 18) ?hx (linkCells (pa, pb)) _ hrg Ybad.underlying58 rfl zero58.toArray info58z rfl (one18 pa pb) ?h1 ?h2 (by decide) ?_; (case hx => rfl); (case h1 => simp); (case h2 => simp); generalize hW : World.alloc _ _ = W; simp only [Act.put, List.setIfInBounds_toArray, List.set_cons_zero, List.set_cons_succ])
        | fail)
      have hB : Below wr.heap.size wr W := by rw [← hW]; exact below_alloc _ _
      have hWs : W.heap.size = wr.heap.size + 1 := by rw [← hW]; simp
      have hLh : W.heap[wr.heap.size]? = some (.cells (linkCells (pa, pb)).toArray 58 (0, 0)) := by rw [← hW]; exact heap1a _ _
      have hM1 : OMat W w.heap.size u3 (linksCmds (ls.take k)) := hM.below hB
      obtain ⟨L, hLb⟩ : ∃ L, L = wr.heap.size := ⟨_, rfl⟩
      rw [← hLb] at hLh hWs
      rw [← hLb]
      have f0 : W.cell? ⟨L, 0, none⟩ = some (.string pa) := (cell_of_block hLh 0).trans rfl
      have f9 : W.cell? ⟨L, 9, none⟩ = some (.string pb) := (cell_of_block hLh 9).trans rfl
      have hLw : w.heap.size ≤ L := by omega
      have hlen := linksCmds_len (ls.take k)
      have htk : (ls.take k).length = k := by simp; omega
      have hLW : L < W.heap.size := by omega
      have hLne : some L ≠ u3.ownBlock := by
        intro h
        have := OMat.lt hM h.symm
        omega
      have hBW : Below w.heap.size w W := hb.trans (hB.mono hwb)
      clear hW hWs hLb
      go_cut [3] (fun V w3 => OMat w3 w.heap.size V (linksCmds (ls.take k) ++ linkRows (pa, pb)) ∧ Below w.heap.size w w3 ∧ w3.heap[L]? = some (.cells (linkCells (pa, pb)).toArray 58 (0, 0)))
      case first =>
        go_region_held3 (fun w' => w'.cell? ⟨L, 0, none⟩ = some (.string pa) ∧ w'.cell? ⟨L, 9, none⟩ = some (.string pb)) ((refine ⟨?_, ?_⟩ <;> (repeat' (first | exact f0 | exact f9 | exact g0 | exact g9 | apply cell_keep)))) ((first
          | (go_at_call 12; refine (if_any _ _ (by assumption)).mono ?_; rintro e w1 ⟨rfl, rfl⟩)
          | (go_at_call 11; refine (ns_any _ _ (by assumption)).mono ?_; rintro e w1 ⟨rfl, rfl⟩)
          | (refine step_at (.tmp 98) (.tmp 116) (by rfl) ?_
             generalize hX : World.drew _ = X
             have hBX : Below W.heap.size W X := by rw [← hX]; exact below_drew2 _ _ _
             have r1 : ORow X w.heap.size (.slice (some ⟨W.heap.size, 0, none⟩) 13 13) ((linkRows (pa, pb)).getD 0 []) := orow_at _ (by rw [← hX]; exact heap2a _ _ _) rfl rfl (by omega) (by omega)
             have r3 : X.heap[W.heap.size + 1]? = some (.cells #[.slice (some ⟨W.heap.size, 0, none⟩) 13 13] 22 (0, 0)) := by rw [← hX]; exact heap2b _ _ _
             have hLX : X.heap[L]? = some (.cells (linkCells (pa, pb)).toArray 58 (0, 0)) := (hBX.block L hLW).trans hLh
             clear hX
             refine step_omat (by rfl) (.tmp 98) (.tmp 116) (by rfl) u3 _ (linkRows (pa, pb)) _ _ _ _ (by rfl) (hM1.below hBX) (by rfl) r3 (by rfl) (by rfl) (one_row r1) (by omega) (by omega) (by have := hBX.size; omega) ?_
             intro V1 w3 hM2 hb3 hg3
             have hL3 : w3.heap[L]? = some (.cells (linkCells (pa, pb)).toArray 58 (0, 0)) := (hg3.block L (Nat.lt_of_lt_of_le hLW hBX.size) hLne).trans hLX
             have g0 : w3.cell? ⟨L, 0, none⟩ = some (.string pa) := (cell_of_block hL3 0).trans rfl
             have g9 : w3.cell? ⟨L, 9, none⟩ = some (.string pb) := (cell_of_block hL3 9).trans rfl
             have hB3 : Below w.heap.size w w3 := (hBW.trans (hBX.mono hBW.size)).trans hb3)))
        go_wp2
        go_meet
        case rel => exact ⟨hM2, hB3, hL3⟩
      case rest =>
        obtain ⟨hM2, hB3, hL3⟩ := hcut
        have e0 : wc.rangeAt L 0 (endCells pa) := range_of_block [] (endCells pa) (endCells pb) hL3
        have e9 : wc.rangeAt L 9 (endCells pb) := range_of_block (endCells pa) (endCells pb) [] (by rw [List.append_nil]; exact hL3)
        clear hM1 hBW hLh f0 f9 hLne hM hb hB hLW
        go_wp2_with (first
          | (refine wpList_load_mid rfl 56 (.tmp 118) rfl L 0 (by rfl) (endCells pa) _ e0 Ybad.underlying56 rfl info56s ?_; simp only [Act.put, List.setIfInBounds_toArray, List.set_cons_zero, List.set_cons_succ])
          | (refine wpList_load_mid rfl 56 (.tmp 120) rfl L 9 (by rfl) (endCells pb) _ e9 Ybad.underlying56 rfl info56s ?_; simp only [Act.put, List.setIfInBounds_toArray, List.set_cons_zero, List.set_cons_succ])
          | (refine wpList_load_mid rfl 56 (.tmp 123) rfl L 9 (by rfl) (endCells pb) _ e9 Ybad.underlying56 rfl info56s ?_; simp only [Act.put, List.setIfInBounds_toArray, List.set_cons_zero, List.set_cons_succ])
          | (refine wpList_load_mid rfl 56 (.tmp 125) rfl L 0 (by rfl) (endCells pa) _ e0 Ybad.underlying56 rfl info56s ?_; simp only [Act.put, List.setIfInBounds_toArray, List.set_cons_zero, List.set_cons_succ])
          | (refine wpList_two 66 (.tmp 119) (.tmp 121) rfl rfl _ _ _ (by rfl) (by rfl) (run_build66 pa pb) ?_; simp only [Act.put, List.setIfInBounds_toArray, List.set_cons_zero, List.set_cons_succ])
          | (refine wpList_two 66 (.tmp 124) (.tmp 126) rfl rfl _ _ _ (by rfl) (by rfl) (run_build66 pb pa) ?_; simp only [Act.put, List.setIfInBounds_toArray, List.set_cons_zero, List.set_cons_succ])
          | (refine wpList_two_slice 67 (.tmp 122) (.tmp 127) rfl rfl _ _ _ _ (by rfl) (by rfl) (run_build67 pa pb _) ?_; generalize hW : World.alloc _ _ = W4; simp only [Act.put, List.setIfInBounds_toArray, List.set_cons_zero, List.set_cons_succ])
          | fail)
        have hM4 : OMat W4 w.heap.size u3 (linksCmds (ls.take k) ++ linkRows (pa, pb)) := hM2.below (by rw [← hW]; exact below_alloc _ _)
        have hB4 : Below w.heap.size w W4 := by rw [← hW]; exact hB3.alloc hB3.size _
        have hP4 : W4.heap[wc.heap.size]? = some (.cells (linkCells (pa, pb) ++ linkCells (pb, pa)).toArray 66 (0, 0)) := by rw [← hW]; exact heap1a _ _
        have hMne : some wc.heap.size ≠ u3.ownBlock := by
          intro h
          have := OMat.lt hM2 h.symm
          omega
        obtain ⟨M, hMb⟩ : ∃ M, M = wc.heap.size := ⟨_, rfl⟩
        have hMw : w.heap.size ≤ M := by rw [hMb]; exact hB3.size
        rw [← hMb] at hP4 hMne ⊢
        clear hW hMb hM2 hB3 hL3 e0 e9
        go_loopw [3, 130] (fun V i wi => ∃ m : Nat, m ≤ 2 ∧ i = .int .i64 m ∧ OMat wi w.heap.size V (linksCmds (ls.take k) ++ linkRows (pa, pb) ++ endsOf pa pb m) ∧ Below w.heap.size w wi ∧ wi.heap[M]? = some (.cells (linkCells (pa, pb) ++ linkCells (pb, pa)).toArray 66 (0, 0))) (fun _ i _ => 2 - (intOf i).toNat)
        case atStart => exact ⟨0, by omega, rfl, by simpa [endsOf] using hM4, hB4, hP4⟩
        case round =>
          clear hM4 hB4 hP4 hMne
          obtain ⟨m, hm, rfl, hM, hb, hP⟩ := hrel
          by_cases hlt : m < 2
          · obtain ⟨x, y, hrg, hx, hy, HE⟩ : ∃ x y, wr.rangeAt M (m * 18) (linkCells (x, y)) ∧ x.size ≤ 140737488351232 ∧ y.size ≤ 140737488351232 ∧ Hid (endsOf pa pb (m + 1) = endsOf pa pb m ++ endRows x y) := by
              match m, hlt with
              | 0, _ => exact ⟨pa, pb, range_of_block [] (linkCells (pa, pb)) (linkCells (pb, pa)) hP, hsa, hsb, rfl⟩
              | 1, _ => exact ⟨pb, pa, range_of_block (linkCells (pa, pb)) (linkCells (pb, pa)) [] (by rw [List.append_nil]; exact hP), hsb, hsa, rfl⟩
            have hlt2 : (m : Int) < 2 := by omega
            have hrb := hb.size
            go_upto_block 9 with fail
            go_cut [3] (fun V w3 => OMat w3 w.heap.size V (linksCmds (ls.take k) ++ linkRows (pa, pb) ++ endsOf pa pb m ++ endRows x y) ∧ Below w.heap.size w w3 ∧ w3.heap[M]? = some (.cells (linkCells (pa, pb) ++ linkCells (pb, pa)).toArray 66 (0, 0)))
            case first =>
              go_wp2_with (first
                | (refine wpList_copy 66 (.tmp 132) 133 15 rfl rfl rfl rfl rfl rfl rfl rfl rfl M (m * 18) ?hx (linkCells (x, y)) _ hrg Ybad.underlying66 rfl _ info66z rfl (one18 x y) ?h1 ?h2 (by decide) ?_; (case hx => rfl); (case h1 => simp); (case h2 => simp); generalize hW : World.alloc _ _ = W; simp only [Act.put, List.setIfInBounds_toArray, List.set_cons_zero, List.set_cons_succ])
                | fail)
              have hB : Below wr.heap.size wr W := by rw [← hW]; exact below_alloc _ _
              have hWs : W.heap.size = wr.heap.size + 1 := by rw [← hW]; simp
              have hNh : W.heap[wr.heap.size]? = some (.cells (linkCells (x, y)).toArray 66 (0, 0)) := by rw [← hW]; exact heap1a _ _
              have hM1 : OMat W w.heap.size u3 (linksCmds (ls.take k) ++ linkRows (pa, pb) ++ endsOf pa pb m) := hM.below hB
              have hBW : Below w.heap.size w W := hb.trans (hB.mono hrb)
              have hP1 : W.heap[M]? = some (.cells (linkCells (pa, pb) ++ linkCells (pb, pa)).toArray 66 (0, 0)) := (hB.block _ (Array.getElem?_eq_some_iff.1 hP).1).trans hP
              obtain ⟨N, hNb⟩ : ∃ N, N = wr.heap.size := ⟨_, rfl⟩
              have hNne : some N ≠ u3.ownBlock := by
                intro h
                have := OMat.lt hM h.symm
                omega
              rw [← hNb] at hNh hWs
              rw [← hNb]
              have hNw : w.heap.size ≤ N := by omega
              have hNW : N < W.heap.size := by omega
              have hMW : M < W.heap.size := (Array.getElem?_eq_some_iff.1 hP1).1
              have n0 : W.cell? ⟨N, 0, none⟩ = some (.string x) := (cell_of_block hNh 0).trans rfl
              have n9 : W.cell? ⟨N, 9, none⟩ = some (.string y) := (cell_of_block hNh 9).trans rfl
              have hlE : (endsOf pa pb m).length ≤ 6 := by
                match m, hlt with
                | 0, _ => simp [endsOf]
                | 1, _ => simp [endsOf, endRows]
              clear hW hWs hNb hM hb hP hB
              go_region_held3 (fun w' => w'.cell? ⟨N, 0, none⟩ = some (.string x) ∧ w'.cell? ⟨N, 9, none⟩ = some (.string y)) (exact ⟨n0, n9⟩) ((first
                | (go_at_call 12; refine (if_any _ _ (by assumption)).mono ?_; rintro e w1 ⟨rfl, rfl⟩)
                | (go_at_call 11; refine (ns_any _ _ (by assumption)).mono ?_; rintro e w1 ⟨rfl, rfl⟩)))
              obtain ⟨W0, hW0⟩ : ∃ W0, W0 = W.drew := ⟨_, rfl⟩
              have hM2 : OMat W0 w.heap.size u3 (linksCmds (ls.take k) ++ linkRows (pa, pb) ++ endsOf pa pb m) := by rw [hW0]; exact hM1
              have hNh2 : W0.heap[N]? = some (.cells (linkCells (x, y)).toArray 66 (0, 0)) := by rw [hW0]; exact hNh
              have hP2 : W0.heap[M]? = some (.cells (linkCells (pa, pb) ++ linkCells (pb, pa)).toArray 66 (0, 0)) := by rw [hW0]; exact hP1
              have hBW2 : Below w.heap.size w W0 := by rw [hW0]; exact hBW.drew
              have hMW2 : M < W0.heap.size := (Array.getElem?_eq_some_iff.1 hP2).1
              have hNW2 : N < W0.heap.size := (Array.getElem?_eq_some_iff.1 hNh2).1
              rw [← hW0]
              clear hW0 hM1 hNh hP1 hBW n0 n9 hNW hMW
              go_wp2_with fail
              refine ends_region_at (N := N) (M := M) (x := x) (y := y) (u3 := u3) (w0 := w) (base := w.heap.size) _ ?hA ?h15 ?h16 ?h17 ?hsz ?hlow ?hw ?hm ?o0 ?o1 ?o2 ?o3 ?o4 ?o5 ?o6 ?o7 ?o8 ?o9 ?o10 ?o11 ?o12 ?o13 ?o14 ?o15 ?o16 ?o17 ?o18 ?o19 ?o20 hNh2 hP2 hBW2 (Nat.le_refl _) hM2 ?hLL ?hf0 ?hQ
              case hsz => rfl
              case hA => rfl
              case hlow => kernel_rfl
              case hm => kernel_rfl
              case h15 => rfl
              case h16 => rfl
              case h17 => rfl
              case hf0 => rfl
              case o0 => exact ⟨_, rfl, rfl, rfl, rfl⟩
              case o1 => exact ⟨_, rfl, rfl, rfl, rfl⟩
              case o2 => exact ⟨_, rfl, rfl, rfl, rfl⟩
              case o3 => exact ⟨_, rfl, rfl, rfl, rfl⟩
              case o4 => exact ⟨_, rfl, rfl, rfl, rfl⟩
              case o5 => exact ⟨_, rfl, rfl, rfl, rfl⟩
              case o6 => exact ⟨_, rfl, rfl, rfl, rfl⟩
              case o7 => exact ⟨_, rfl, rfl, rfl, rfl⟩
              case o8 => exact ⟨_, rfl, rfl, rfl, rfl⟩
              case o9 => exact ⟨_, rfl, rfl, rfl, rfl⟩
              case o10 => exact ⟨_, rfl, rfl, rfl, rfl⟩
              case o11 => exact ⟨_, rfl, rfl, rfl, rfl⟩
              case o12 => exact ⟨_, rfl, rfl, rfl, rfl⟩
              case o13 => exact ⟨_, rfl, rfl, rfl, rfl⟩
              case o14 => exact ⟨_, rfl, rfl, rfl, rfl⟩
              case o15 => exact ⟨_, rfl, rfl, rfl, rfl⟩
              case o16 => exact ⟨_, rfl, rfl, rfl, rfl⟩
              case o17 => exact ⟨_, rfl, rfl, rfl, rfl⟩
              case o18 => exact ⟨_, rfl, rfl, rfl, rfl⟩
              case o19 => exact ⟨_, rfl, rfl, rfl, rfl⟩
              case o20 => exact ⟨_, rfl, rfl, rfl, rfl⟩
              case hw =>
                intro p hp
                simp only [edges29, List.mem_cons, List.not_mem_nil, or_false] at hp
                rcases hp with h | h | h | h | h | h | h | h | h | h | h | h | h | h | h | h | h | h | h | h <;> subst h <;> kernel_rfl
              case hLL =>
                simp only [List.length_append]
                simp only [linkRows, List.length_cons, List.length_nil]
                omega
              case hQ =>
                intro f w' hM3 hB3 gM
                simp only [puts29, Act.put, List.setIfInBounds_toArray, List.set_cons_zero, List.set_cons_succ]
                go_wp2
                go_meet
                case rel => exact ⟨hM3, hB3, gM⟩
            case rest =>
              obtain ⟨hM3, hB3, gM⟩ := hcut
              go_wp2
              go_roundw
              case rel =>
                refine ⟨m + 1, by omega, by go_num, ?_, hB3, gM⟩
                rw [HE.out, ← List.append_assoc]
                exact hM3
              case measure => simp [intOf]; omega
          · have hm2 : m = 2 := by omega
            subst hm2
            have hlt2 : ¬ ((2 : Nat) : Int) < 2 := by omega
            go_wp2
            go_roundw
            case rel =>
              refine ⟨k + 1, by omega, by go_num, ?_, hb⟩
              rw [take_succ' ls k default hltk, linksCmds_snoc, ← HP.out]
              have : endsOf pa pb 2 = endRows pa pb ++ endRows pb pa := rfl
              rw [this, ← List.append_assoc] at hM
              exact hM
            case measure => simp [intOf]; omega
    · have hk' : k = ls.length := by omega
      subst hk'
      rw [List.take_length] at hM
      have c3' : wr.cell? ⟨T, 3, none⟩ = some (.slice aR rs.length capR) := (hb.cell (p := ⟨T, 3, none⟩) hT).trans c3
      have hlt' : ¬ (ls.length : Int) < (ls.length : Int) := by omega
      clear hlt hk hL c0 _c1 c2
      go_wp2_with fail
      go_loopw [3, 169] (fun V i wr => ∃ k : Nat, k ≤ rs.length ∧ i = .int .i64 k ∧ OMat wr w.heap.size V (linksCmds ls ++ routesCmds ((rs.take k).map fun p => (p.1, p.2.1))) ∧ Below w.heap.size w wr) (fun _ i _ => rs.length - (intOf i).toNat)
      case atStart => exact ⟨0, by omega, rfl, by simpa [routesCmds] using hM, hb⟩
      case round =>
        clear hM hb c3' hwb
        obtain ⟨k, hk, rfl, hM, hb⟩ := hrel
        obtain ⟨wo, hwo⟩ : ∃ wo : World, wo = wr := ⟨_, rfl⟩
        rw [← hwo] at hM hb
        rw [← hwo]
        clear hwo wr
        have hwb := hb.size
        by_cases hlt : k < rs.length
        · rcases hR with hR | ⟨bR, oR, rfl, hR⟩
          · simp [hR] at hlt
          obtain ⟨p, hp⟩ : ∃ p, p = rs.getD k default := ⟨_, rfl⟩
          obtain ⟨gG, gC⟩ := hR k hlt
          have hss := hsr k
          rw [← hp] at gG gC hss
          have HP : Hid (p = rs.getD k default) := hp
          clear hp
          obtain ⟨pn, g, vg⟩ := p
          dsimp only at hss gG
          obtain ⟨hsn, hg4⟩ := hss
          obtain ⟨bG, rfl, gG⟩ := gG
          have hbR : bR < w.heap.size := World.block_lt_of_cell? w ⟨bR, oR + k * 6 + 0, none⟩ (gC 0 (by omega))
          have hrg : wo.rangeAt bR (oR + k * 6) (routeCells (pn, g, .slice (some ⟨bG, 0, none⟩) g g)) := by
            intro j v hv
            have hj : j < 6 := (List.getElem?_eq_some_iff.1 hv).1
            exact ((hb.cell (p := ⟨bR, oR + k * 6 + j, none⟩) hbR).trans (gC j hj)).trans hv
          clear gC
          have hltk := hlt
          have hlt' : (k : Int) < (rs.length : Int) := by omega
          go_wp2_with (first
            | (refine wpList_copy 63 (.tmp 171) 172 19 rfl rfl rfl rfl rfl rfl rfl rfl rfl bR (oR + k * 6) ?hx (routeCells (pn, g, .slice (some ⟨bG, 0, none⟩) g g)) _ hrg Ybad.underlying63 rfl _ info63z rfl (one6 _ _ _ _ _) ?h1 ?h2 (by decide) ?_; (case hx => rfl); (case h1 => simp); (case h2 => simp); generalize hW : World.alloc _ _ = W; simp only [Act.put, List.setIfInBounds_toArray, List.set_cons_zero, List.set_cons_succ])
            | fail)
          have hB : Below wo.heap.size wo W := by rw [← hW]; exact below_alloc _ _
          have hWs : W.heap.size = wo.heap.size + 1 := by rw [← hW]; simp
          have hRh : W.heap[wo.heap.size]? = some (.cells (routeCells (pn, g, .slice (some ⟨bG, 0, none⟩) g g)).toArray 63 (0, 0)) := by rw [← hW]; exact heap1a _ _
          obtain ⟨R, hRb⟩ : ∃ R, R = wo.heap.size := ⟨_, rfl⟩
          have HRs : Hid (wo.heap.size = R) := hRb.symm
          have hwb' : w.heap.size ≤ R := by rw [hRb]; exact hwb
          rw [← hRb] at hRh hWs hB
          rw [← hRb]
          have f0 : W.cell? ⟨R, 0, none⟩ = some (.string pn) := (cell_of_block hRh 0).trans rfl
          have f1 : W.cell? ⟨R, 1, none⟩ = some (.int .u64 0) := (cell_of_block hRh 1).trans rfl
          have f2 : W.cell? ⟨R, 2, none⟩ = some (.int .u64 0) := (cell_of_block hRh 2).trans rfl
          have f3 : W.cell? ⟨R, 3, none⟩ = some (.pointer none) := (cell_of_block hRh 3).trans rfl
          have f4 : W.cell? ⟨R, 4, none⟩ = some (.int .u8 0) := (cell_of_block hRh 4).trans rfl
          have f5 : W.cell? ⟨R, 5, none⟩ = some (.slice (some ⟨bG, 0, none⟩) g g) := (cell_of_block hRh 5).trans rfl
          clear hW hRb
          go_region_held3 (fun w' => w'.cell? ⟨R, 0, none⟩ = some (.string pn) ∧ w'.cell? ⟨R, 1, none⟩ = some (.int .u64 0) ∧ w'.cell? ⟨R, 2, none⟩ = some (.int .u64 0) ∧ w'.cell? ⟨R, 3, none⟩ = some (.pointer none) ∧ w'.cell? ⟨R, 4, none⟩ = some (.int .u8 0)) ((refine ⟨?_, ?_, ?_, ?_, ?_⟩ <;> (repeat' (first | exact f0 | exact f1 | exact f2 | exact f3 | exact f4 | apply cell_keep)))) ((first
            | (go_at_call 11; refine (ns_any _ _ (by assumption)).mono ?_; rintro e w1 ⟨rfl, rfl⟩)
            | (go_at_call 9; refine (pstr_zero _).mono ?_; rintro e w1 ⟨rfl, rfl⟩)))
          generalize hY : World.drew _ = Y
          have hYB : Below R wo Y := by
            rw [← hY]
            refine (hB.trans (Below.mono (below_drew3 W _ _ _) (by omega)))
          have hrow : ORow Y R (.slice (some ⟨R + 1 + 1 + 1, 0, none⟩) 6 6) (routeHead pn) := orow_at _ (by rw [← hY]; exact heap_at _ _ _ (by simp [hWs])) rfl rfl (by omega) (by omega)
          have y5 : Y.cell? ⟨R, 5, none⟩ = some (.slice (some ⟨bG, 0, none⟩) g g) := by
            rw [← hY]
            exact cell_keep (cell_keep (cell_keep f5))
          have hBY : Below w.heap.size w Y := hb.trans (hYB.mono hwb')
          have hg : ∀ i, i < g → Y.cell? ⟨bG, i * 3, none⟩ = some (.int .u64 0) ∧ Y.cell? ⟨bG, i * 3 + 1, none⟩ = some (.int .u64 0) ∧ Y.cell? ⟨bG, i * 3 + 2, none⟩ = some (.pointer none) := by
            intro i hi
            obtain ⟨q1, q2, q3⟩ := gG i hi
            have hl := World.block_lt_of_cell? w ⟨bG, i * 3, none⟩ q1
            exact ⟨(hBY.cell (p := ⟨bG, i * 3, none⟩) hl).trans q1, (hBY.cell (p := ⟨bG, i * 3 + 1, none⟩) hl).trans q2, (hBY.cell (p := ⟨bG, i * 3 + 2, none⟩) hl).trans q3⟩
          have hzY : Y.cell? ⟨2, 0, none⟩ = some (.pointer none) := (hBY.cell (p := ⟨2, 0, none⟩) h2).trans hz
          have hRY : R < Y.heap.size := World.block_lt_of_cell? Y ⟨R, 5, none⟩ y5
          clear hY hB hRh f0 f1 f2 f3 f4 f5 hWs hrg
          go_upto_if 183 with fail
          go_cut [20] (fun v wc => ORow wc R v (routeRow pn g) ∧ Below R wo wc)
          case first =>
            by_cases h1 : g = 1
            · subst h1
              have he : (((1 : Nat) : Int) == 1) = true := rfl
              obtain ⟨q1, q2, q3⟩ := hg 0 (by omega)
              go_wp2_with (first
                | (go_at_call 10; refine (astr_zero _ hzY).mono ?_; rintro e w1 ⟨rfl, rfl⟩)
                | (at_builtin; refine Hid.out ?_))
              unfold Hid
              generalize hW : World.alloc _ _ = W2
              have hB2 : Below Y.heap.size Y W2 := by rw [← hW]; exact below_al0 (below_al0 (below_al0 (Below.refl _ _)))
              have r3 : W2.heap[Y.heap.size + 1 + 1]? = some (.cells #[.string ⟨#[118, 105, 97]⟩, .string AS] 9 (0, 0)) := by rw [← hW]; exact heap_at _ _ _ (by simp)
              clear hW
              refine orow_append rfl (.tmp 184) (.tmp 190) rfl (ls := [⟨#[118, 105, 97]⟩, AS]) rfl (hrow.below hB2) rfl r3 rfl rfl (by simp [routeHead]) (by omega) (by have := hB2.size; omega) ?_
              intro v' w3 hR3 hb3 hg3
              have hb4 : Below R wo w3 := (hYB.trans (hB2.mono (Nat.le_of_lt hRY))).trans hb3
              go_wp2
              go_meet
              case rel => exact ⟨hR3, hb4⟩
            · have he : ((g : Int) == 1) = false := by simp; omega
              have hrr : routeRow pn g = routeHead pn ++ hops g := by unfold routeRow; rw [if_neg h1]
              go_wp2_with fail
              rw [he]
              clear he
              go_loopw [20, 195] (fun v i wi => ∃ j : Nat, j ≤ g ∧ i = .int .i64 j ∧ ORow wi R v (routeHead pn ++ hops j) ∧ Below R wo wi) (fun _ i _ => g - (intOf i).toNat)
              case atStart => exact ⟨0, by omega, rfl, by simpa [hops] using hrow, hYB⟩
              case round =>
                clear hrow y5 hzY hRY hYB
                obtain ⟨j, hj, rfl, hR3, hbi⟩ := hrel
                have hBi : Below w.heap.size w wr := hb.trans (hbi.mono hwb')
                have hzi : wr.cell? ⟨2, 0, none⟩ = some (.pointer none) := (hBi.cell (p := ⟨2, 0, none⟩) h2).trans hz
                have hri := hbi.size
                rw [HRs.out] at hri
                by_cases hjl : j < g
                · have hjl' : (j : Int) < (g : Int) := by omega
                  obtain ⟨q1, q2, q3⟩ := gG j hjl
                  have hl := World.block_lt_of_cell? w ⟨bG, j * 3, none⟩ q1
                  have p1 : wr.cell? ⟨bG, j * 3, none⟩ = some (.int .u64 0) := (hBi.cell (p := ⟨bG, j * 3, none⟩) hl).trans q1
                  have p2 : wr.cell? ⟨bG, j * 3 + 1, none⟩ = some (.int .u64 0) := (hBi.cell (p := ⟨bG, j * 3 + 1, none⟩) hl).trans q2
                  have p3 : wr.cell? ⟨bG, j * 3 + 2, none⟩ = some (.pointer none) := (hBi.cell (p := ⟨bG, j * 3 + 2, none⟩) hl).trans q3
                  have hz2 : (wr.alloc Z49).cell? ⟨2, 0, none⟩ = some (.pointer none) := cell_keep hzi
                  go_wp2_with (first
                    | (go_at_call 10; refine (astr_zero _ hz2).mono ?_; rintro e w1 ⟨rfl, rfl⟩)
                    | (at_builtin; refine Hid.out ?_))
                  unfold Hid
                  generalize hW : World.alloc _ _ = W2
                  have hB2 : Below wr.heap.size wr W2 := by rw [← hW]; exact below_al0 (below_al0 (below_al0 (below_al0 (Below.refl _ _))))
                  have r3 : W2.heap[wr.heap.size + 1 + 1 + 1]? = some (.cells #[.string ⟨#[110, 101, 120, 116, 104, 111, 112]⟩, .string ⟨#[118, 105, 97]⟩, .string AS] 9 (0, 0)) := by rw [← hW]; exact heap_at _ _ _ (by simp)
                  clear hW
                  have hhl := hops_len j
                  refine orow_append rfl (.tmp 199) (.tmp 202) rfl (ls := [⟨#[110, 101, 120, 116, 104, 111, 112]⟩, ⟨#[118, 105, 97]⟩, AS]) rfl (hR3.below hB2) rfl r3 rfl rfl (by simp [routeHead]; omega) (by omega) (by have := hB2.size; omega) ?_
                  intro v' w3 hR4 hb3 hg3
                  have hb4 : Below R wo w3 := (hbi.trans (hB2.mono hri)).trans hb3
                  clear r3 hB2 hR3 hb3 hg3 hbi hBi
                  go_wp2
                  go_roundw
                  case rel =>
                    refine ⟨j + 1, by omega, by go_num, ?_, hb4⟩
                    rw [List.append_assoc] at hR4
                    exact hR4
                  case measure => simp [intOf]; omega
                · have hj' : j = g := by omega
                  subst hj'
                  have hjl' : ¬ (j : Int) < (j : Int) := by omega
                  go_wp2
                  go_meet
                  case rel => exact ⟨by rw [hrr]; exact hR3, hbi⟩
          case rest =>
            obtain ⟨hrow2, hBc⟩ := hcut
            have hsc := hBc.size
            rw [HRs.out] at hsc
            have hMc : OMat wc w.heap.size u3 (linksCmds ls ++ routesCmds ((rs.take k).map fun p => (p.1, p.2.1))) := hM.below (by rw [HRs.out]; exact hBc)
            have hBw : Below w.heap.size w wc := hb.trans (hBc.mono hwb')
            have hrl : (routeRow pn g).length ≤ 20 := routeRow_len pn g hg4
            have hl1 := linksCmds_len ls
            have hl2 : (routesCmds ((rs.take k).map fun p => (p.1, p.2.1))).length ≤ 300 := by simp [routesCmds]; omega
            obtain ⟨ra, rc, hru⟩ := hrow2.shape
            obtain ⟨q, hq⟩ : ∃ q, q = (routeRow pn g).length := ⟨_, rfl⟩
            rw [← hq] at hru
            have hrow3 : ORow wc w.heap.size (.slice ra q rc) (routeRow pn g) := by rw [← hru]; exact World.ownsRow.mono hrow2 hwb'
            rw [hru]
            clear hru hq hrow2 hYB hrow y5 hM hb hBY hg hzY hRY
            go_wp2_with (first
              | (at_builtin; refine Hid.out ?_)
              | fail)
            unfold Hid
            generalize hW : World.alloc _ _ = W2
            have hB2 : Below wc.heap.size wc W2 := by rw [← hW]; exact below_alloc _ _
            have r3 : W2.heap[wc.heap.size]? = some (.cells #[.slice ra q rc] 22 (0, 0)) := by rw [← hW]; exact heap1a _ _
            clear hW
            refine omat_append rfl (.tmp 205) (.tmp 207) rfl (ls := [routeRow pn g]) rfl (hMc.below hB2) rfl r3 rfl rfl ?_ (by rw [List.length_append]; omega) (by omega) (by have := hB2.size; omega) ?_
            · intro i hi
              match i, hi with
              | 0, _ => exact ⟨_, rfl, hrow3.below hB2⟩
            · intro V1 w3 hM1 hb1 _
              have hb5 : Below w.heap.size w w3 := (hBw.trans (hB2.mono hBw.size)).trans hb1
              clear hb1 r3 hMc hB2 hrow3 hBw hBc
              go_wp2
              go_roundw
              case rel =>
                refine ⟨k + 1, by omega, by go_num, ?_, hb5⟩
                rw [take_succ' rs k default hltk, List.map_append, routesCmds_app, ← HP.out, ← List.append_assoc]
                exact hM1
              case measure => simp [intOf]; omega
        · have hk' : k = rs.length := by omega
          subst hk'
          rw [List.take_length] at hM
          have hlt' : ¬ (rs.length : Int) < (rs.length : Int) := by omega
          clear hlt hk
          go_wp2
          go_ret
          exact ⟨_, rfl, hM, hb⟩

end Go.Proofs.YbulkcrxaDoor
