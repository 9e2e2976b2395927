import Derived.Test.YbulkcrxaDoorY
namespace Go.Proofs.YbulkcrxaDoor
open Go.RowKit
attribute [local go_sem ↓] Go.wp_at_zero Go.wp_at_succ

/-- One row of strings is appended to the matrix. -/
theorem omat_one {wX : World} {base : Nat} {ops : Array Oper} {rest : List Oper} {o : Oper} {a : Act} {Q : Exit → Act → World → Prop} (hgd : o.guard = none) (s x : Operand) (ho : o.op = .call { callee := .builtin .append, args := #[s, x], argTypes := #[35, 35] })
    {V : Value} {LL : List (List ByteArray)} (row : List ByteArray) {cs : Array Value} {n b1 b2 : Nat} (hs : a.eval s = V) (hM : OMat wX base V LL) (hx : a.eval x = .slice (some ⟨b2, 0, none⟩) 1 1) (e1 : b1 = wX.heap.size) (e2 : b2 = wX.heap.size + 1) (hcs : cs.toList = row.map Value.string) (hn : row.length = n) (hn' : n ≤ 1000) (hLL : LL.length ≤ 1000000) (hbase : base ≤ wX.heap.size)
    (h : ∀ V' w1, OMat w1 base V' (LL ++ [row]) → Below base wX w1 → (∀ (b t : Nat) (c : Array Value), t ≠ 22 → wX.heap[b]? = some (.cells c t (0, 0)) → w1.heap[b]? = some (.cells c t (0, 0))) → wpList Ybad.prog ops Q rest (a.put o.dst V') w1) :
    wpList Ybad.prog ops Q (o :: rest) a ((wX.alloc (.cells cs 9)).alloc (.cells #[.slice (some ⟨b1, 0, none⟩) n n] 22)) := by
  subst e1 e2
  generalize hW : World.alloc _ _ = W
  have hB : Below wX.heap.size wX W := by rw [← hW]; exact below_al0 (below_al0 (Below.refl _ _))
  have r1 : ORow W base (.slice (some ⟨wX.heap.size, 0, none⟩) n n) row := orow_at row (by rw [← hW]; exact heap2a _ _ _) hcs hn hbase hn'
  have r3 : W.heap[wX.heap.size + 1]? = some (.cells #[.slice (some ⟨wX.heap.size, 0, none⟩) n n] 22 (0, 0)) := by rw [← hW]; exact heap2b _ _ _
  refine omat_append hgd s x ho (ls := [row]) hs (hM.below hB) hx r3 rfl rfl ?_ hLL (by omega) (by have := hB.size; omega) ?_
  · intro i hi
    match i, hi with
    | 0, _ => exact ⟨_, rfl, r1⟩
  · intro V' w1 hM1 hb1 hg1
    refine h V' w1 hM1 ((hB.mono hbase).trans hb1) ?_
    intro b t c ht hb
    have hbl := (Array.getElem?_eq_some_iff.1 hb).1
    have hbW : W.heap[b]? = some (.cells c t (0, 0)) := (hB.block b hbl).trans hb
    exact (hg1.block b (Array.getElem?_eq_some_iff.1 hbW).1 ((hM.below hB).ne_block hbW ht)).trans hbW

theorem cmds_small (ls : List (ByteArray × ByteArray)) (rs : List (ByteArray × Int)) (i : Nat) : ((linksCmds ls ++ routesCmds (rs.map fun p => (p.1, (p.2 % 5).toNat))).getD i []).length ≤ 1000000 := by
  have key : ∀ x ∈ linksCmds ls ++ routesCmds (rs.map fun p => (p.1, (p.2 % 5).toNat)), x.length ≤ 1000000 := by
    intro x hx
    rcases List.mem_append.1 hx with h | h
    · obtain ⟨p, _, hp⟩ := List.mem_flatMap.1 h
      simp only [linkPart, linkRows, endRows, List.mem_append, List.mem_cons, List.not_mem_nil, or_false] at hp
      rcases hp with (rfl | rfl | rfl | rfl) | rfl | rfl | rfl <;> simp
    · obtain ⟨p, hp, rfl⟩ := List.mem_map.1 h
      obtain ⟨r, _, rfl⟩ := List.mem_map.1 hp
      have := routeRow_len r.1 (r.2 % 5).toNat (by have := Int.emod_lt_of_pos r.2 (show (0 : Int) < 5 by omega); omega)
      show (routeRow r.1 (r.2 % 5).toNat).length ≤ _
      omega
  rw [List.getD_eq_getElem?_getD]
  cases h : (linksCmds ls ++ routesCmds (rs.map fun p => (p.1, (p.2 % 5).toNat)))[i]? with
  | none => simp
  | some x => exact key x (List.mem_of_getElem? h)
theorem rr_small {rr : List (ByteArray × Nat × Value)} {rs : List (ByteArray × Int)} (h : rr.map (fun p => (p.1, p.2.1)) = rs.map (fun p => (p.1, (p.2 % 5).toNat))) (hs : ∀ i, (rs.getD i default).1.size ≤ 140737488351232) (i : Nat) : (rr.getD i default).1.size ≤ 140737488351232 ∧ (rr.getD i default).2.1 ≤ 4 := by
  have hl : rr.length = rs.length := by have := congrArg List.length h; simpa using this
  by_cases hi : i < rr.length
  · have e := congrArg (fun l => l[i]?) h
    simp only [List.getElem?_map, List.getElem?_eq_getElem hi, List.getElem?_eq_getElem (show i < rs.length by omega), Option.map_some, Option.some.injEq, Prod.mk.injEq] at e
    have hs' := hs i
    simp only [List.getD_eq_getElem?_getD, List.getElem?_eq_getElem hi, List.getElem?_eq_getElem (show i < rs.length by omega), Option.getD_some] at hs' ⊢
    rw [e.1, e.2]
    refine ⟨hs', ?_⟩
    have := Int.emod_lt_of_pos (rs[i]).2 (show (0 : Int) < 5 by omega)
    omega
  · simp only [List.getD_eq_getElem?_getD, List.getElem?_eq_none (show rr.length ≤ i by omega), Option.getD_none]
    exact ⟨by show (default : ByteArray).size ≤ _; simp [default, ByteArray.size], Nat.zero_le _⟩
theorem OLinks.grewR {W w3 : World} {T k : Nat} {pn : ByteArray} {q : Int} {xs : List Value} {v vS : Value} {base : Nat} {ls : List (ByteArray × ByteArray)} (h : OLinks W base vS ls) (hg : GrewR W T k pn q xs v w3) : OLinks w3 base vS ls := by
  obtain ⟨_, _, _, row, hne, hgr, _⟩ := hg
  have hs2 : (W16a W q).heap.size = W.heap.size + 1 := by unfold W16a; simp
  refine ⟨h.1, ?_⟩
  rcases h.2 with h' | ⟨g, cap, cur, e, hb, hh, r⟩
  · exact .inl h'
  · refine .inr ⟨g, cap, cur, e, hb, ?_, r⟩
    have hgl := (Array.getElem?_eq_some_iff.1 hh).1
    rw [hgr.block g (by unfold W16b; simp; omega) (hne g 58 _ (by decide) hh)]
    exact blk_keep (blk_keep hh)
theorem ORoutes.setT {w : World} {T : Nat} {o : Nat} {v u : Value} {rr : List (ByteArray × Nat × Value)} (h : ORoutes w (T + 1) v rr) (_ : u = u) : ORoutes (w.setCell ⟨T, o, none⟩ u) (T + 1) v rr :=
  ⟨ownsRow_setCell_below h.1 (by show T < _; omega) _, fun i hi => by
    obtain ⟨b, e, hl, hb⟩ := h.2 i hi
    exact ⟨b, e, hl, (heap_setCell_other w ⟨T, o, none⟩ b u (by show b ≠ T; omega)).trans hb⟩⟩

set_option maxHeartbeats 2000000 in
set_option maxRecDepth 100000 in
theorem links_walk (v0 v1 : Value) (ls : List (ByteArray × ByteArray)) (rs : List (ByteArray × Int)) (w : World)
    (h0 : Pairs w v0 ls) (h1 : RArgs w v1 rs) (hsz : ∀ i, (ls.getD i default).1.size ≤ 140737488351232 ∧ (ls.getD i default).2.size ≤ 140737488351232) (hsr : ∀ i, (rs.getD i default).1.size ≤ 140737488351232)
    (hl0 : ls.length ≤ 9223372036854775807) (hl1 : rs.length ≤ 9223372036854775807) (hz : w.cell? ⟨2, 0, none⟩ = some (.pointer none)) :
    Calls Ybad.prog 4 #[v0, v1] w fun e w' => e = .returned (.bool true) ∧ Below w.heap.size w w' := by
  obtain ⟨a0, cap0, rfl, h0⟩ := h0
  obtain ⟨a1, cap1, rfl, h1⟩ := h1
  by_cases hbig : 300 < ls.length
  · go_enter Ybad.func4, Ybad.ntmps4
    go_wp2
    go_ret
    exact ⟨rfl, Below.refl _ _⟩
  by_cases hbig1 : 300 < rs.length
  · go_enter Ybad.func4, Ybad.ntmps4
    go_wp2
    go_ret
    exact ⟨rfl, Below.refl _ _⟩
  have hd0 : decide (300 < (ls.length : Int)) = false := by simp; omega
  have hd1 : decide (300 < (rs.length : Int)) = false := by simp; omega
  have hz1 : ((((w.alloc Z51).alloc Z49).alloc Z51).alloc Z51).cell? ⟨2, 0, none⟩ = some (.pointer none) := cell_keep (cell_keep (cell_keep (cell_keep hz)))
  have h2w := World.block_lt_of_cell? _ _ hz
  go_enter Ybad.func4, Ybad.ntmps4
  go_wp2_with (first
    | (go_at_call 9; refine (pstr_zero _).mono ?_; rintro e w1 ⟨rfl, rfl⟩)
    | (go_at_call 10; refine (astr_zero _ hz1).mono ?_; rintro e w1 ⟨rfl, rfl⟩))
  generalize hW1 : World.alloc _ _ = W1
  obtain ⟨T, hTd⟩ : ∃ T, T = w.heap.size + 1 + 1 + 1 + 1 + 1 + 1 := ⟨_, rfl⟩
  have hTW : W1.heap[T]? = some (.cells #[.slice none 0 0, .slice none 0 0, .slice none 0 0, .slice none 0 0] 30 (0, 0)) := by rw [← hW1, hTd]; exact heap_at _ _ _ (by simp)
  have hBW : Below w.heap.size w W1 := by rw [← hW1]; repeat' (first | exact Below.refl _ _ | apply below_al0)
  rw [← hTd]
  have hwT : w.heap.size ≤ T := by omega
  clear hW1 hTd hz1
  have hll : ls.length ≤ 300 := by omega
  have hlr : rs.length ≤ 300 := by omega
  clear hbig hbig1 hl0 hl1
  go_loopw [39] (fun i wr => ∃ (k : Nat) (vS : Value), k ≤ ls.length ∧ i = .int .i64 k ∧ OLinks wr (T + 1) vS (ls.take k) ∧ wr.heap[T]? = some (.cells #[.slice none 0 0, .slice none 0 0, vS, .slice none 0 0] 30 (0, 0)) ∧ Below w.heap.size w wr) (fun i _ => ls.length - (intOf i).toNat)
  case atStart => exact ⟨0, .slice none 0 0, by omega, rfl, World.ownsRow_nil _ _ _ _, hTW, hBW⟩
  case round =>
    clear hTW hBW
    obtain ⟨k, vS, hk, rfl, hP, hT, hb⟩ := hrel
    have hwz : T < wr.heap.size := (Array.getElem?_eq_some_iff.1 hT).1
    by_cases hlt : k < ls.length
    · rcases h0 with h0 | ⟨bY, oY, rfl, h0⟩
      · simp [h0] at hlt
      obtain ⟨aS, cS, hvS⟩ := hP.shape
      rw [hvS] at hP hT
      clear hvS vS
      obtain ⟨y0, y1⟩ := h0 k hlt
      obtain ⟨p, hp⟩ : ∃ p, p = ls.getD k default := ⟨_, rfl⟩
      rw [← hp] at y0 y1
      have HP : Hid (p = ls.getD k default) := hp
      clear hp
      obtain ⟨pa, pb⟩ := p
      dsimp only at y0 y1
      have hbY := World.block_lt_of_cell? _ _ y0
      have x0 : wr.cell? ⟨bY, oY + k * 2, none⟩ = some (.string pa) := (hb.cell hbY).trans y0
      have x1 : wr.cell? ⟨bY, oY + k * 2 + 1, none⟩ = some (.string pb) := (hb.cell (p := ⟨bY, oY + k * 2 + 1, none⟩) hbY).trans y1
      clear y0 y1
      have hlt' : (k : Int) < (ls.length : Int) := by omega
      have htk : (ls.take k).length = k := by simp; omega
      rw [htk] at hT
      go_wp2_with fail
      generalize hW : World.alloc _ _ = W
      have hB : Below wr.heap.size wr W := by rw [← hW]; exact below_alloc _ _
      have hBh : W.heap[wr.heap.size]? = some (.cells #[.string pa, .string pb] 54 (0, 0)) := by rw [← hW]; exact heap1a _ _
      have hTW : W.heap[T]? = some (.cells #[.slice none 0 0, .slice none 0 0, .slice aS k cS, .slice none 0 0] 30 (0, 0)) := (hB.block T hwz).trans hT
      have hPW : W.ownsRow (T + 1) 58 18 (.slice aS k cS) k (cellsL (ls.take k)) := by
        have := owns_below hP hB
        rw [htk] at this
        exact this
      have hwz2 : T < W.heap.size := (Array.getElem?_eq_some_iff.1 hTW).1
      have hbW : Below w.heap.size w W := hb.trans (hB.mono hb.size)
      clear hW hB hP hT x0 x1 hb
      refine links_region (T := T) (B := wr.heap.size) (pa := pa) (pb := pb) _ ?hA ?h9 ?h11 ?hsz ?hlow ?hw ?hm ?o0 ?o1 ?o2 ?o3 ?o4 ?o5 ?o6 ?o7 ?o8 ?o9 ?o10 ?o11 ?o12 ?o13 ?o14 ?o15 ?o16 hTW hBh hPW (by omega) ?hQ
      case hA => show 59 ≤ 211; omega
      case h9 => rfl
      case h11 => rfl
      case hsz => rfl
      case hlow => kernel_rfl
      case hm => kernel_rfl
      case o0 => exact ⟨_, rfl, rfl, rfl, rfl⟩
      case o1 => exact ⟨_, rfl, rfl, rfl, rfl⟩
      case o2 => exact ⟨_, rfl, rfl, rfl, rfl⟩
      case o3 => exact ⟨_, rfl, rfl, rfl, rfl⟩
      case o4 => exact ⟨_, rfl, rfl, rfl, rfl⟩
      case o5 => exact ⟨_, rfl, rfl, rfl, rfl⟩
      case o6 => exact ⟨_, rfl, rfl, rfl, rfl⟩
      case o7 => exact ⟨_, rfl, rfl, rfl, rfl⟩
      case o8 => exact ⟨_, rfl, rfl, rfl, rfl⟩
      case o9 => exact ⟨_, rfl, rfl, rfl, rfl⟩
      case o10 => exact ⟨_, rfl, rfl, rfl, rfl⟩
      case o11 => exact ⟨_, rfl, rfl, rfl, rfl⟩
      case o12 => exact ⟨_, rfl, rfl, rfl, rfl⟩
      case o13 => exact ⟨_, rfl, rfl, rfl, rfl⟩
      case o14 => exact ⟨_, rfl, rfl, rfl, rfl⟩
      case o15 => exact ⟨_, rfl, rfl, rfl, rfl⟩
      case o16 => exact ⟨_, rfl, rfl, rfl, rfl⟩
      case hw =>
        intro p hp
        simp only [edges11, List.mem_cons, List.not_mem_nil, or_false] at hp
        rcases hp with h | h | h | h | h | h | h | h | h | h | h | h | h | h | h | h | h <;> subst h <;> kernel_rfl
      case hQ =>
        rintro f w3 v ⟨⟨av, cv, rfl⟩, hown, hb3⟩
        have hT3 := (hb3.block T (by omega)).trans hTW
        simp only [putsR, Act.put, Nat.reduceAdd, List.setIfInBounds_toArray, List.set_cons_zero, List.set_cons_succ]
        have hb4 : Below w.heap.size w w3 := hbW.trans (hb3.mono (by omega))
        have hO : OLinks w3 (T + 1) (.slice av (k + 1) cv) (ls.take k ++ [(pa, pb)]) := OLinks.push (by rw [htk]; exact hown)
        clear hTW hPW hown hb3 hbW
        go_wp2
        go_roundw
        case rel =>
          refine ⟨k + 1, .slice av (k + 1) cv, by omega, by go_num, ?_, ?_, hb4.setCell (by omega) _⟩
          · rw [take_succ' ls k default hlt, ← HP.out]
            exact ownsRow_setCell_below hO (by show T < _; omega) _
          · rw [heap_setCell_same _ _ _ _ _ _ hT3]
            rfl
        case measure => simp [intOf]; omega
    · have hk' : k = ls.length := by omega
      subst hk'
      rw [List.take_length] at hP
      have hlt' : ¬ (ls.length : Int) < (ls.length : Int) := by omega
      clear hlt hk
      go_wp2_with fail
      go_loopw [62] (fun i wr => ∃ (k : Nat) (vR : Value) (rr : List (ByteArray × Nat × Value)), k ≤ rs.length ∧ i = .int .i64 k ∧ OLinks wr (T + 1) vS ls ∧ ORoutes wr (T + 1) vR rr ∧ rr.map (fun p => (p.1, p.2.1)) = (rs.take k).map (fun p => (p.1, (p.2 % 5).toNat)) ∧ wr.heap[T]? = some (.cells #[.slice none 0 0, .slice none 0 0, vS, vR] 30 (0, 0)) ∧ Below w.heap.size w wr) (fun i _ => rs.length - (intOf i).toNat)
      case atStart => exact ⟨0, .slice none 0 0, [], by omega, rfl, hP, ORoutes.nil _ _, rfl, hT, hb⟩
      case round =>
        clear hP hT hb hwz
        obtain ⟨k, vR, rr, hk, rfl, hO, hR, hrr, hT, hb⟩ := hrel
        have hwz : T < wr.heap.size := (Array.getElem?_eq_some_iff.1 hT).1
        have hrk : rr.length = k := by
          have := congrArg List.length hrr
          simp at this; omega
        by_cases hlt : k < rs.length
        · rcases h1 with h1 | ⟨bY, oY, rfl, h1⟩
          · simp [h1] at hlt
          obtain ⟨aS, cS, hvS⟩ := hR.shape
          rw [hvS] at hR hT
          clear hvS vR
          obtain ⟨y0, y1, hq0, hq1⟩ := h1 k hlt
          obtain ⟨p, hp⟩ : ∃ p, p = rs.getD k default := ⟨_, rfl⟩
          rw [← hp] at y0 y1 hq0 hq1
          have HP : Hid (p = rs.getD k default) := hp
          clear hp
          obtain ⟨pn, q⟩ := p
          dsimp only at y0 y1 hq0 hq1
          have hbY := World.block_lt_of_cell? _ _ y0
          have x0 : wr.cell? ⟨bY, oY + k * 2, none⟩ = some (.string pn) := (hb.cell hbY).trans y0
          have x1 : wr.cell? ⟨bY, oY + k * 2 + 1, none⟩ = some (.int .u8 q) := (hb.cell (p := ⟨bY, oY + k * 2 + 1, none⟩) hbY).trans y1
          clear y0 y1
          have hlt' : (k : Int) < (rs.length : Int) := by omega
          have HR : Hid (rr.map (fun p => (p.1, p.2.1)) = (rs.take k).map (fun p => (p.1, (p.2 % 5).toNat))) := hrr
          rw [hrk] at hT hR
          have HK : Hid (rr.length = k) := hrk
          clear hrr hrk
          go_wp2_with fail
          generalize hW : World.alloc _ _ = W
          have hB : Below wr.heap.size wr W := by rw [← hW]; exact below_alloc _ _
          have hBh : W.heap[wr.heap.size]? = some (.cells #[.string pn, .int .u8 q] 60 (0, 0)) := by rw [← hW]; exact heap1a _ _
          have hTW : W.heap[T]? = some (.cells #[.slice none 0 0, .slice none 0 0, vS, .slice aS k cS] 30 (0, 0)) := (hB.block T hwz).trans hT
          have hRW : ORoutes W (T + 1) (.slice aS k cS) rr := hR.below hB
          have hOW : OLinks W (T + 1) vS ls := hO.below hB
          have hwz2 : T < W.heap.size := (Array.getElem?_eq_some_iff.1 hTW).1
          have hbW : Below w.heap.size w W := hb.trans (hB.mono hb.size)
          clear hW hB hR hO hT x0 x1 hb
          refine routes_region (T := T) (B := wr.heap.size) (pn := pn) (q := q) (xs := cellsR rr) _ ?hA ?h9 ?h13 ?hsz ?hlow ?hw ?hm ?o0 ?o1 ?o2 ?o3 ?o4 ?o5 ?o6 ?o7 ?o8 ?o9 ?o10 ?o11 ?o12 ?o13 ?o14 ?o15 ?o16 ?o17 hTW hBh (by have := hRW.1; rw [HK.out] at this; exact this) (by omega) hq0 hq1 ?hQ
          case hA => show 83 ≤ 211; omega
          case h9 => rfl
          case h13 => rfl
          case hsz => rfl
          case hlow => kernel_rfl
          case hm => kernel_rfl
          case o0 => exact ⟨_, rfl, rfl, rfl, rfl⟩
          case o1 => exact ⟨_, rfl, rfl, rfl, rfl⟩
          case o2 => exact ⟨_, rfl, rfl, rfl, rfl⟩
          case o3 => exact ⟨_, rfl, rfl, rfl, rfl⟩
          case o4 => exact ⟨_, rfl, rfl, rfl, rfl⟩
          case o5 => exact ⟨_, rfl, rfl, rfl, rfl⟩
          case o6 => exact ⟨_, rfl, rfl, rfl, rfl⟩
          case o7 => exact ⟨_, rfl, rfl, rfl, rfl⟩
          case o8 => exact ⟨_, rfl, rfl, rfl, rfl⟩
          case o9 => exact ⟨_, rfl, rfl, rfl, rfl⟩
          case o10 => exact ⟨_, rfl, rfl, rfl, rfl⟩
          case o11 => exact ⟨_, rfl, rfl, rfl, rfl⟩
          case o12 => exact ⟨_, rfl, rfl, rfl, rfl⟩
          case o13 => exact ⟨_, rfl, rfl, rfl, rfl⟩
          case o14 => exact ⟨_, rfl, rfl, rfl, rfl⟩
          case o15 => exact ⟨_, rfl, rfl, rfl, rfl⟩
          case o16 => exact ⟨_, rfl, rfl, rfl, rfl⟩
          case o17 => exact ⟨_, rfl, rfl, rfl, rfl⟩
          case hw =>
            intro p hp
            simp only [edges16, List.mem_cons, List.not_mem_nil, or_false] at hp
            rcases hp with h | h | h | h | h | h | h | h | h | h | h | h | h | h | h | h | h | h <;> subst h <;> kernel_rfl
          case hQ =>
            intro f w3 v hg
            have hR3 := hRW.push (by omega) HK.out hg
            have hO3 : OLinks w3 (T + 1) vS ls := hOW.grewR hg
            obtain ⟨⟨av, cv, rfl⟩, _, hb3, _⟩ := hg
            have hT3 := (hb3.block T (by omega)).trans hTW
            simp only [putsR, Act.put, Nat.reduceAdd, List.setIfInBounds_toArray, List.set_cons_zero, List.set_cons_succ]
            have hb4 : Below w.heap.size w w3 := hbW.trans (hb3.mono (by omega))
            clear hTW hRW hb3 hbW hOW
            go_wp2
            go_roundw
            case rel =>
              refine ⟨k + 1, .slice av (k + 1) cv, rr ++ [(pn, (q % 5).toNat, gwOf W q)], by omega, by go_num, ownsRow_setCell_below hO3 (by show T < _; omega) _, ?_, ?_, ?_, hb4.setCell (by omega) _⟩
              · exact ORoutes.setT hR3 rfl
              · rw [List.map_append, HR.out, take_succ' rs k default hlt, List.map_append, ← HP.out]
                rfl
              · rw [heap_setCell_same _ _ _ _ _ _ hT3]
                rfl
            case measure => simp [intOf]; omega
        · have hk' : k = rs.length := by omega
          subst hk'
          rw [List.take_length] at hrr
          have hlt' : ¬ (rs.length : Int) < (rs.length : Int) := by omega
          clear hlt hk
          have d0 : wr.cell? ⟨T, 0, none⟩ = some (.slice none 0 0) := cell_of_row _ _ _ _ _ _ hT
          have d1 : wr.cell? ⟨T, 1, none⟩ = some (.slice none 0 0) := cell_of_row _ _ _ _ _ _ hT
          have d2 : wr.cell? ⟨T, 2, none⟩ = some vS := cell_of_row _ _ _ _ _ _ hT
          have d3 : wr.cell? ⟨T, 3, none⟩ = some vR := cell_of_row _ _ _ _ _ _ hT
          have hzr : wr.cell? ⟨2, 0, none⟩ = some (.pointer none) := (hb.cell (p := ⟨2, 0, none⟩) h2w).trans hz
          have hs2 : ∀ i, (rr.getD i default).1.size ≤ 140737488351232 ∧ (rr.getD i default).2.1 ≤ 4 := rr_small hrr hsr
          go_wp2_with fail
          refine (up_links T vS vR ls rr wr d0 d1 d2 d3 hO.links hR.routes hll (by omega) hsz hs2 hzr).mono ?_
          rintro e w2 ⟨V, rfl, hG, hb2⟩
          have hG2 : Mat w2 V (linksCmds ls ++ routesCmds (rs.map fun p => (p.1, (p.2 % 5).toNat))) := by rw [← hrr]; exact hG.mat
          have hbw2 : Below w.heap.size w w2 := hb.trans (hb2.mono hb.size)
          clear d0 d1 d2 d3 hzr hs2 hG hb2 hb hR hO hrr hT hrk hwz
          go_wp2_with fail
          go_loopw [15, 88] (fun U i wr => ∃ j : Nat, j ≤ ls.length ∧ i = .int .i64 j ∧ OMat wr w2.heap.size U (linksCmds (ls.take j)) ∧ Below w2.heap.size w2 wr) (fun _ i _ => ls.length - (intOf i).toNat)
          case atStart => exact ⟨0, by omega, rfl, OMat.nil _ _, Below.refl _ _⟩
          case round =>
            obtain ⟨j, hj, rfl, hM, hb⟩ := hrel
            have hwb3 := hb.size
            by_cases hlt : j < ls.length
            · rcases h0 with h0 | ⟨bY, oY, rfl, h0⟩
              · simp [h0] at hlt
              obtain ⟨y0, y1⟩ := h0 j hlt
              obtain ⟨p, hp⟩ : ∃ p, p = ls.getD j default := ⟨_, rfl⟩
              have hss := hsz j
              rw [← hp] at y0 y1 hss
              have HP : Hid (p = ls.getD j default) := hp
              clear hp
              obtain ⟨pa, pb⟩ := p
              dsimp only at y0 y1 hss
              obtain ⟨hsa, hsb⟩ := hss
              have hbY := World.block_lt_of_cell? _ _ y0
              have hbi : Below w.heap.size w wr := hbw2.trans (hb.mono hbw2.size)
              have x0 : wr.cell? ⟨bY, oY + j * 2, none⟩ = some (.string pa) := (hbi.cell hbY).trans y0
              have x1 : wr.cell? ⟨bY, oY + j * 2 + 1, none⟩ = some (.string pb) := (hbi.cell (p := ⟨bY, oY + j * 2 + 1, none⟩) hbY).trans y1
              clear y0 y1
              have hlt' : (j : Int) < (ls.length : Int) := by omega
              go_wp2_with (first
                | (at_builtin; refine Hid.out ?_)
                | fail)
              unfold Hid
              have hlen := linksCmds_len (ls.take j)
              have htk : (ls.take j).length = j := by simp; omega
              generalize hX : wr.alloc (.cells #[.string pa, .string pb] 54) = X0
              have hBX0 : X0.heap[wr.heap.size]? = some (.cells #[.string pa, .string pb] 54 (0, 0)) := by rw [← hX]; exact heap1a _ _
              have hM0 : OMat X0 w2.heap.size u15 (linksCmds (ls.take j)) := by rw [← hX]; exact hM.below (below_alloc _ _)
              have hb0 : Below w2.heap.size w2 X0 := by rw [← hX]; exact hb.alloc hwb3 _
              have hs0 : X0.heap.size = wr.heap.size + 1 := by rw [← hX]; simp
              clear hX hM hb hbi x0 x1
              refine omat_one rfl (.tmp 92) (.tmp 106) rfl ((linkRows (pa, pb)).getD 0 []) rfl hM0 rfl (by rw [hs0]) (by rw [hs0]) rfl rfl (by omega) (by omega) hb0.size ?_
              intro V1 X1 hM1 hbY1 hkY1
              have hBX1 := hkY1 _ _ _ (by decide) hBX0
              have hb1 : Below w2.heap.size w2 X1 := hb0.trans hbY1
              clear hM0 hb0 hbY1 hkY1 hBX0
              have p1 : X1.cell? ⟨wr.heap.size, 0, none⟩ = some (.string pa) := cell_of_row _ _ _ _ _ _ hBX1
              have q1 : X1.cell? ⟨wr.heap.size, 1, none⟩ = some (.string pb) := cell_of_row _ _ _ _ _ _ hBX1
              go_wp2_with (first
                | (at_builtin; refine Hid.out ?_)
                | fail)
              unfold Hid
              clear p1 q1
              refine omat_one rfl (.tmp 108) (.tmp 117) rfl ((endRows pa pb).getD 0 []) rfl hM1 rfl rfl rfl rfl rfl (by omega) (by simp only [List.length_append, List.length_cons, List.length_nil]; omega) hb1.size ?_
              intro V2 X2 hM2 hbY2 hkY2
              have hBX2 := hkY2 _ _ _ (by decide) hBX1
              have hb2 : Below w2.heap.size w2 X2 := hb1.trans hbY2
              clear hM1 hb1 hbY2 hkY2 hBX1
              have p2 : X2.cell? ⟨wr.heap.size, 0, none⟩ = some (.string pa) := cell_of_row _ _ _ _ _ _ hBX2
              have q2 : X2.cell? ⟨wr.heap.size, 1, none⟩ = some (.string pb) := cell_of_row _ _ _ _ _ _ hBX2
              go_wp2_with (first
                | (at_builtin; refine Hid.out ?_)
                | fail)
              unfold Hid
              clear p2 q2
              refine omat_one rfl (.tmp 119) (.tmp 128) rfl ((endRows pa pb).getD 1 []) rfl hM2 rfl rfl rfl rfl rfl (by omega) (by simp only [List.length_append, List.length_cons, List.length_nil]; omega) hb2.size ?_
              intro V3 X3 hM3 hbY3 hkY3
              have hBX3 := hkY3 _ _ _ (by decide) hBX2
              have hb3 : Below w2.heap.size w2 X3 := hb2.trans hbY3
              clear hM2 hb2 hbY3 hkY3 hBX2
              have p3 : X3.cell? ⟨wr.heap.size, 0, none⟩ = some (.string pa) := cell_of_row _ _ _ _ _ _ hBX3
              have q3 : X3.cell? ⟨wr.heap.size, 1, none⟩ = some (.string pb) := cell_of_row _ _ _ _ _ _ hBX3
              go_wp2_with (first
                | (at_builtin; refine Hid.out ?_)
                | fail)
              unfold Hid
              clear p3 q3
              refine omat_one rfl (.tmp 130) (.tmp 138) rfl ((endRows pa pb).getD 2 []) rfl hM3 rfl rfl rfl rfl rfl (by omega) (by simp only [List.length_append, List.length_cons, List.length_nil]; omega) hb3.size ?_
              intro V4 X4 hM4 hbY4 hkY4
              have hBX4 := hkY4 _ _ _ (by decide) hBX3
              have hb4 : Below w2.heap.size w2 X4 := hb3.trans hbY4
              clear hM3 hb3 hbY4 hkY4 hBX3
              have p4 : X4.cell? ⟨wr.heap.size, 0, none⟩ = some (.string pa) := cell_of_row _ _ _ _ _ _ hBX4
              have q4 : X4.cell? ⟨wr.heap.size, 1, none⟩ = some (.string pb) := cell_of_row _ _ _ _ _ _ hBX4
              go_wp2_with (first
                | (at_builtin; refine Hid.out ?_)
                | fail)
              unfold Hid
              clear p4 q4
              refine omat_one rfl (.tmp 140) (.tmp 149) rfl ((endRows pb pa).getD 0 []) rfl hM4 rfl rfl rfl rfl rfl (by omega) (by simp only [List.length_append, List.length_cons, List.length_nil]; omega) hb4.size ?_
              intro V5 X5 hM5 hbY5 hkY5
              have hBX5 := hkY5 _ _ _ (by decide) hBX4
              have hb5 : Below w2.heap.size w2 X5 := hb4.trans hbY5
              clear hM4 hb4 hbY5 hkY5 hBX4
              have p5 : X5.cell? ⟨wr.heap.size, 0, none⟩ = some (.string pa) := cell_of_row _ _ _ _ _ _ hBX5
              have q5 : X5.cell? ⟨wr.heap.size, 1, none⟩ = some (.string pb) := cell_of_row _ _ _ _ _ _ hBX5
              go_wp2_with (first
                | (at_builtin; refine Hid.out ?_)
                | fail)
              unfold Hid
              clear p5 q5
              refine omat_one rfl (.tmp 151) (.tmp 160) rfl ((endRows pb pa).getD 1 []) rfl hM5 rfl rfl rfl rfl rfl (by omega) (by simp only [List.length_append, List.length_cons, List.length_nil]; omega) hb5.size ?_
              intro V6 X6 hM6 hbY6 hkY6
              have hBX6 := hkY6 _ _ _ (by decide) hBX5
              have hb6 : Below w2.heap.size w2 X6 := hb5.trans hbY6
              clear hM5 hb5 hbY6 hkY6 hBX5
              have p6 : X6.cell? ⟨wr.heap.size, 0, none⟩ = some (.string pa) := cell_of_row _ _ _ _ _ _ hBX6
              have q6 : X6.cell? ⟨wr.heap.size, 1, none⟩ = some (.string pb) := cell_of_row _ _ _ _ _ _ hBX6
              go_wp2_with (first
                | (at_builtin; refine Hid.out ?_)
                | fail)
              unfold Hid
              clear p6 q6
              refine omat_one rfl (.tmp 162) (.tmp 170) rfl ((endRows pb pa).getD 2 []) rfl hM6 rfl rfl rfl rfl rfl (by omega) (by simp only [List.length_append, List.length_cons, List.length_nil]; omega) hb6.size ?_
              intro V7 X7 hM7 hbY7 hkY7
              have hBX7 := hkY7 _ _ _ (by decide) hBX6
              have hb7 : Below w2.heap.size w2 X7 := hb6.trans hbY7
              clear hM6 hb6 hbY7 hkY7 hBX6
              go_wp2
              go_roundw
              case rel =>
                refine ⟨j + 1, by omega, by go_num, ?_, hb7⟩
                rw [take_succ' ls j default hlt, linksCmds_snoc, ← HP.out]
                simpa [linkRows, endRows] using hM7
              case measure => simp [intOf]; omega
            · have hj' : j = ls.length := by omega
              subst hj'
              rw [List.take_length] at hM
              have hlt' : ¬ (ls.length : Int) < (ls.length : Int) := by omega
              clear hlt hj
              go_wp2_with fail
              go_loopw [15, 175] (fun U i wr => ∃ j : Nat, j ≤ rs.length ∧ i = .int .i64 j ∧ OMat wr w2.heap.size U (linksCmds ls ++ routesCmds ((rs.take j).map fun p => (p.1, (p.2 % 5).toNat))) ∧ Below w2.heap.size w2 wr) (fun _ i _ => rs.length - (intOf i).toNat)
              case atStart => exact ⟨0, by omega, rfl, by simpa [routesCmds] using hM, hb⟩
              case round =>
                clear hM hb hwb3
                obtain ⟨j, hj, rfl, hM, hb⟩ := hrel
                obtain ⟨wo, hwo⟩ : ∃ wo : World, wo = wr := ⟨_, rfl⟩
                rw [← hwo] at hM hb
                rw [← hwo]
                clear hwo wr
                have hwb3 := hb.size
                by_cases hlt : j < rs.length
                · rcases h1 with h1 | ⟨bY, oY, rfl, h1⟩
                  · simp [h1] at hlt
                  obtain ⟨y0, y1, hq0, hq1⟩ := h1 j hlt
                  obtain ⟨p, hp⟩ : ∃ p, p = rs.getD j default := ⟨_, rfl⟩
                  have hss := hsr j
                  rw [← hp] at y0 y1 hq0 hq1 hss
                  have HP : Hid (p = rs.getD j default) := hp
                  clear hp
                  obtain ⟨pn, q⟩ := p
                  dsimp only at y0 y1 hq0 hq1 hss
                  have hbY := World.block_lt_of_cell? _ _ y0
                  have hbi : Below w.heap.size w wo := hbw2.trans (hb.mono hbw2.size)
                  have x0 : wo.cell? ⟨bY, oY + j * 2, none⟩ = some (.string pn) := (hbi.cell hbY).trans y0
                  have x1 : wo.cell? ⟨bY, oY + j * 2 + 1, none⟩ = some (.int .u8 q) := (hbi.cell (p := ⟨bY, oY + j * 2 + 1, none⟩) hbY).trans y1
                  clear y0 y1
                  have hlt' : (j : Int) < (rs.length : Int) := by omega
                  go_upto_if 189 with fail
                  obtain ⟨g, hg⟩ : ∃ g : Nat, (g : Int) = q % 5 := ⟨(q % 5).toNat, Int.toNat_of_nonneg (Int.emod_nonneg _ (by omega))⟩
                  have hg4 : g ≤ 4 := by have := Int.emod_lt_of_pos q (show (0 : Int) < 5 by omega); omega
                  have HG : Hid ((q % 5).toNat = g) := by show (q % 5).toNat = g; omega
                  rw [← hg]
                  clear hg
                  generalize hY : World.alloc _ _ = Y
                  have hYB : Below wo.heap.size wo Y := by rw [← hY]; exact below_al0 (below_al0 (Below.refl _ _))
                  have hrow : ORow Y wo.heap.size (.slice (some ⟨wo.heap.size + 1, 0, none⟩) 6 6) (routeHead pn) := orow_at _ (by rw [← hY]; exact heap2b _ _ _) rfl rfl (by omega) (by omega)
                  clear hY x0 x1
                  go_cut [20] (fun v wc => ORow wc wo.heap.size v (routeRow pn g) ∧ Below wo.heap.size wo wc)
                  case first =>
                    by_cases h1 : g = 1
                    · subst h1
                      have he : (((1 : Nat) : Int) == 1) = true := rfl
                      go_wp2_with (first
                        | (at_builtin; refine Hid.out ?_)
                        | fail)
                      unfold Hid
                      generalize hW : World.alloc _ _ = W2
                      have hB2 : Below Y.heap.size Y W2 := by rw [← hW]; exact below_al0 (Below.refl _ _)
                      have r3 : W2.heap[Y.heap.size]? = some (.cells #[.string ⟨#[118, 105, 97]⟩, .string AS] 9 (0, 0)) := by rw [← hW]; exact heap1a _ _
                      clear hW
                      refine orow_append rfl (.tmp 190) (.tmp 192) rfl (ls := [⟨#[118, 105, 97]⟩, AS]) rfl (hrow.below hB2) rfl r3 rfl rfl (by simp [routeHead]) (by omega) (by have := hB2.size; have := hYB.size; omega) ?_
                      intro v' w3 hR3 hb3 hg3
                      have hb4 : Below wo.heap.size wo w3 := (hYB.trans (hB2.mono hYB.size)).trans hb3
                      go_wp2
                      go_meet
                      case rel => exact ⟨hR3, hb4⟩
                    · have he : ((g : Int) == 1) = false := by simp; omega
                      have hrr : routeRow pn g = routeHead pn ++ hops g := by unfold routeRow; rw [if_neg h1]
                      go_wp2_with fail
                      try rw [he]
                      clear he
                      go_loopw [20, 22] (fun v i wi => ∃ m : Nat, m ≤ g ∧ i = .int .i64 m ∧ ORow wi wo.heap.size v (routeHead pn ++ hops m) ∧ Below wo.heap.size wo wi) (fun _ i _ => g - (intOf i).toNat)
                      case atStart => exact ⟨0, by omega, rfl, by simpa [hops] using hrow, hYB⟩
                      case round =>
                        clear hrow hYB
                        obtain ⟨m, hm, rfl, hR3, hbi2⟩ := hrel
                        have hri := hbi2.size
                        by_cases hml : m < g
                        · have hml' : (m : Int) < (g : Int) := by omega
                          go_wp2_with (first
                            | (at_builtin; refine Hid.out ?_)
                            | fail)
                          unfold Hid
                          generalize hW : World.alloc _ _ = W2
                          have hB2 : Below wr.heap.size wr W2 := by rw [← hW]; exact below_al0 (Below.refl _ _)
                          have r3 : W2.heap[wr.heap.size]? = some (.cells #[.string ⟨#[110, 101, 120, 116, 104, 111, 112]⟩, .string ⟨#[118, 105, 97]⟩, .string AS] 9 (0, 0)) := by rw [← hW]; exact heap1a _ _
                          clear hW
                          have hhl := hops_len m
                          refine orow_append rfl (.tmp 199) (.tmp 201) rfl (ls := [⟨#[110, 101, 120, 116, 104, 111, 112]⟩, ⟨#[118, 105, 97]⟩, AS]) rfl (hR3.below hB2) rfl r3 rfl rfl (by simp [routeHead]; omega) (by omega) (by have := hB2.size; omega) ?_
                          intro v' w3 hR4 hb3 hg3
                          have hb4 : Below wo.heap.size wo w3 := (hbi2.trans (hB2.mono hri)).trans hb3
                          clear r3 hB2 hR3 hb3 hg3 hbi2
                          go_wp2
                          go_roundw
                          case rel =>
                            refine ⟨m + 1, by omega, by go_num, ?_, hb4⟩
                            rw [List.append_assoc] at hR4
                            exact hR4
                          case measure => simp [intOf]; omega
                        · have hm' : m = g := by omega
                          subst hm'
                          have hml' : ¬ (m : Int) < (m : Int) := by omega
                          go_wp2
                          go_meet
                          case rel => exact ⟨by rw [hrr]; exact hR3, hbi2⟩
                  case rest =>
                    obtain ⟨hrow2, hBc⟩ := hcut
                    have hsc := hBc.size
                    have hMc := hM.below hBc
                    have hBw : Below w2.heap.size w2 wc := hb.trans (hBc.mono hwb3)
                    have hrl : (routeRow pn g).length ≤ 20 := routeRow_len pn g hg4
                    have hl1 := linksCmds_len ls
                    have hl2 : (routesCmds ((rs.take j).map fun p => (p.1, (p.2 % 5).toNat))).length ≤ 300 := by simp [routesCmds]; omega
                    obtain ⟨ra, rc, hru⟩ := hrow2.shape
                    obtain ⟨qn, hqn⟩ : ∃ qn, qn = (routeRow pn g).length := ⟨_, rfl⟩
                    rw [← hqn] at hru
                    have hrow3 : ORow wc w2.heap.size (.slice ra qn rc) (routeRow pn g) := by rw [← hru]; exact World.ownsRow.mono hrow2 hwb3
                    rw [hru]
                    clear hru hqn hrow2 hYB hrow hM hb
                    go_wp2_with (first
                      | (at_builtin; refine Hid.out ?_)
                      | fail)
                    unfold Hid
                    generalize hW : World.alloc _ _ = W2
                    have hB2 : Below wc.heap.size wc W2 := by rw [← hW]; exact below_alloc _ _
                    have r3 : W2.heap[wc.heap.size]? = some (.cells #[.slice ra qn rc] 22 (0, 0)) := by rw [← hW]; exact heap1a _ _
                    clear hW
                    refine omat_append rfl (.tmp 203) (.tmp 205) rfl (ls := [routeRow pn g]) rfl (hMc.below hB2) rfl r3 rfl rfl ?_ (by rw [List.length_append]; omega) (by omega) (by have := hB2.size; omega) ?_
                    · intro i hi
                      match i, hi with
                      | 0, _ => exact ⟨_, rfl, hrow3.below hB2⟩
                    · intro V1 w3 hM1 hb1 _
                      have hb5 : Below w2.heap.size w2 w3 := (hBw.trans (hB2.mono hBw.size)).trans hb1
                      clear hb1 r3 hMc hB2 hrow3 hBw hBc
                      go_wp2
                      go_roundw
                      case rel =>
                        refine ⟨j + 1, by omega, by go_num, ?_, hb5⟩
                        rw [take_succ' rs j default hlt, List.map_append, routesCmds_app, ← HP.out, ← List.append_assoc]
                        have : routesCmds (List.map (fun p : ByteArray × Int => (p.1, (p.2 % 5).toNat)) [(pn, q)]) = [routeRow pn g] := by rw [← HG.out]; rfl
                        rw [this]
                        exact hM1
                      case measure => simp [intOf]; omega
                · have hj' : j = rs.length := by omega
                  subst hj'
                  rw [List.take_length] at hM
                  have hlt' : ¬ (rs.length : Int) < (rs.length : Int) := by omega
                  have M1 : Mat wo V _ := hG2.below hb
                  have M2 : Mat wo u15 _ := hM.mat
                  have hfin : Below w.heap.size w wo := hbw2.trans (hb.mono hbw2.size)
                  clear hM hb hlt hj hwb3
                  have hlA := linksCmds_len ls
                  have hlB : (routesCmds (rs.map fun p => (p.1, (p.2 % 5).toNat))).length = rs.length := by simp [routesCmds]
                  go_wp2_with fail
                  refine (zzeq_same V u15 _ wo M1 M2 (by rw [List.length_append]; omega) (cmds_small ls rs)).mono ?_
                  rintro e w3 ⟨rfl, n3, hw3⟩
                  have hfin' : Below w.heap.size w w3 := by rw [hw3]; exact ⟨hfin.os, hfin.tape, hfin.output, hfin.size, hfin.block⟩
                  clear hw3 M1 M2 hfin
                  go_wp2
                  go_ret
                  exact ⟨rfl, hfin'⟩

end Go.Proofs.YbulkcrxaDoor
