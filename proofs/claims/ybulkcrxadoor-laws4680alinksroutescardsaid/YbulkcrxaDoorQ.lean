import Derived.Test.YbulkcrxaDoorP
namespace Go.Proofs.YbulkcrxaDoor
open Go.RowKit

def opAt43 (ops : Array Oper) (i : Nat) (op : Op) : Prop := ∃ o, ops[i]? = some o ∧ o.op = op ∧ o.guard = none ∧ o.dst = some (43 + i)
def vals11 (W : World) (T B : Nat) (vS : Value) (pa pb : ByteArray) : Nat → Value
  | 0 => .pointer (some ⟨T, 0, none⟩)
  | 1 => .pointer (some ⟨T, 0, none⟩)
  | 2 => .pointer (some ⟨T, 0, none⟩)
  | 3 => .pointer (some ⟨T, 2, none⟩)
  | 4 => vS
  | 5 => .pointer (some ⟨B, 0, none⟩)
  | 6 => .string pa
  | 7 => .agg (endCells pa).toArray
  | 8 => .pointer (some ⟨B, 1, none⟩)
  | 9 => .string pb
  | 10 => .agg (endCells pb).toArray
  | 11 => .agg (linkCells (pa, pb)).toArray
  | 12 => .slice (some ⟨W.heap.size, 0, none⟩) 1 1
  | 14 => .pointer (some ⟨T, 0, none⟩)
  | 15 => .pointer (some ⟨T, 2, none⟩)
  | _ => undef
def edges11 : List (Nat × Nat) := [(2, 1), (3, 2), (4, 3), (6, 5), (7, 6), (9, 8), (10, 9), (11, 7), (11, 10), (12, 11), (13, 4), (13, 12), (14, 0), (14, 13), (15, 14), (16, 15), (16, 13)]

theorem all13 {ops : Array Oper} (hw : ∀ p ∈ edges11, waits? .any ops p.1 p.2 = true) {listed : Array Bool} (hcl : Closed .any ops listed) (h : listed.getD 13 false = true) (i : Nat) (hi : i < 13) (h0 : i ≠ 0) : listed.getD i false = true := by
  have go : ∀ a b, (a, b) ∈ edges11 → listed.getD a false = true → listed.getD b false = true := fun a b hab ha => hcl a b ha (hw (a, b) hab)
  have h12 := go 13 12 (by decide) h
  have h11 := go 12 11 (by decide) h12
  have h10 := go 11 10 (by decide) h11
  have h9 := go 10 9 (by decide) h10
  have h7 := go 11 7 (by decide) h11
  have h6 := go 7 6 (by decide) h7
  have h4 := go 13 4 (by decide) h
  have h3 := go 4 3 (by decide) h4
  have h2 := go 3 2 (by decide) h3
  match i, hi, h0 with
  | 1, _, _ => exact go 2 1 (by decide) h2
  | 2, _, _ => exact h2
  | 3, _, _ => exact h3
  | 4, _, _ => exact h4
  | 5, _, _ => exact go 6 5 (by decide) h6
  | 6, _, _ => exact h6
  | 7, _, _ => exact h7
  | 8, _, _ => exact go 9 8 (by decide) h9
  | 9, _, _ => exact h9
  | 10, _, _ => exact h10
  | 11, _, _ => exact h11
  | 12, _, _ => exact h12
  | n + 13, h, _ => omega

theorem build56 (x : ByteArray) (w : World) : (Instr.build 56 #[(0, .string x)]).run Ybad.prog w = .ok (.agg (endCells x).toArray) w := by kernel_rfl
theorem build58 (x y : ByteArray) (w : World) : (Instr.build 58 #[(0, .agg (endCells x).toArray), (1, .agg (endCells y).toArray)]).run Ybad.prog w = .ok (.agg (linkCells (x, y)).toArray) w := by kernel_rfl
theorem slice27 (x y : ByteArray) (w : World) : (Instr.buildSlice 27 1 #[(0, .agg (linkCells (x, y)).toArray)]).run Ybad.prog w = .ok (.slice (some ⟨w.heap.size, 0, none⟩) 1 1) (w.alloc (.cells (linkCells (x, y)).toArray 58)) := by kernel_rfl
theorem field30_2 (w : World) (b : Nat) : (Instr.fieldAt 30 (.pointer (some ⟨b, 0, none⟩)) 2).run Ybad.prog w = .ok (.pointer (some ⟨b, 2, none⟩)) w := by kernel_rfl
theorem field54_0 (w : World) (b : Nat) : (Instr.fieldAt 54 (.pointer (some ⟨b, 0, none⟩)) 0).run Ybad.prog w = .ok (.pointer (some ⟨b, 0, none⟩)) w := by kernel_rfl
theorem field54_1 (w : World) (b : Nat) : (Instr.fieldAt 54 (.pointer (some ⟨b, 0, none⟩)) 1).run Ybad.prog w = .ok (.pointer (some ⟨b, 1, none⟩)) w := by kernel_rfl
theorem info58 : (Ybad.prog.info? 58).map (fun i => (i.zero, i.size, i.bytes)) = some (some (.agg (linkCells (⟨#[]⟩, ⟨#[]⟩)).toArray), 18, 160) := by kernel_rfl

def Grew (W : World) (T k : Nat) (xs cs : List Value) (v : Value) (w3 : World) : Prop := (∃ a c, v = .slice a (k + 1) c) ∧ w3.ownsRow (T + 1) 58 18 v (k + 1) (xs ++ cs) ∧ Below (T + 1) W w3

def J11 (W : World) (T B k : Nat) (vS : Value) (pa pb : ByteArray) (xs : List Value) (listed : Array Bool) (f : Nat → Value) (w : World) : Prop :=
  (∀ i, i < 16 → i ≠ 13 → listed.getD i false = true → f i = vals11 W T B vS pa pb i) ∧
  (listed.getD 13 false = false → w = if listed.getD 12 false = true then W.drew.alloc (.cells (linkCells (pa, pb)).toArray 58) else W.drew) ∧
  (listed.getD 13 false = true → listed.getD 16 false = false → Grew W T k xs (linkCells (pa, pb)) (f 13) w) ∧
  (listed.getD 16 false = true → ∃ w3, Grew W T k xs (linkCells (pa, pb)) (f 13) w3 ∧ w = w3.setCell ⟨T, 2, none⟩ (f 13))

set_option maxHeartbeats 1000000 in
theorem links_region {ops : Array Oper} {Q : Exit → Act → World → Prop} {W : World} {T B k : Nat} {pa pb : ByteArray} {aS : Option Addr} {cS : Nat} {xs : List Value} {id : Nat} (A : Act) (hA : 59 ≤ A.tmps.size) (h9 : A.eval (.tmp 9) = .pointer (some ⟨T, 0, none⟩)) (h11 : A.eval (.tmp 11) = .pointer (some ⟨B, 0, none⟩))
    (hsz : ops.size = 17) (hlow : lowEdges .any ops = true) (hw : ∀ p ∈ edges11, waits? .any ops p.1 p.2 = true) (hm : Ybad.prog.follows .mixedOrders = true)
    (o0 : opAt43 ops 0 (.move (.tmp 9))) (o1 : opAt43 ops 1 (.move (.tmp 9))) (o2 : opAt43 ops 2 (.nilCheck (.tmp 44))) (o3 : opAt43 ops 3 (.fieldAddr 30 (.tmp 45) 2)) (o4 : opAt43 ops 4 (.load 27 (.tmp 46))) (o5 : opAt43 ops 5 (.fieldAddr 54 (.tmp 11) 0)) (o6 : opAt43 ops 6 (.load 9 (.tmp 48)))
    (o7 : opAt43 ops 7 (.build 56 #[(0, .tmp 49)])) (o8 : opAt43 ops 8 (.fieldAddr 54 (.tmp 11) 1)) (o9 : opAt43 ops 9 (.load 9 (.tmp 51))) (o10 : opAt43 ops 10 (.build 56 #[(0, .tmp 52)])) (o11 : opAt43 ops 11 (.build 58 #[(0, .tmp 50), (1, .tmp 53)])) (o12 : opAt43 ops 12 (.buildSlice 27 1 #[(0, .tmp 54)]))
    (o13 : opAt43 ops 13 (.call { callee := .builtin .append, args := #[.tmp 47, .tmp 55], argTypes := #[27, 27] })) (o14 : opAt43 ops 14 (.nilCheck (.tmp 43))) (o15 : opAt43 ops 15 (.fieldAddr 30 (.tmp 57) 2)) (o16 : ∃ o, ops[16]? = some o ∧ o.op = .store 27 (.tmp 58) (.tmp 56) ∧ o.guard = none ∧ o.dst = none)
    (hT : W.heap[T]? = some (.cells #[.slice none 0 0, .slice none 0 0, .slice aS k cS, .slice none 0 0] 30 (0, 0))) (hB : W.heap[B]? = some (.cells #[.string pa, .string pb] 54 (0, 0))) (hP : W.ownsRow (T + 1) 58 18 (.slice aS k cS) k xs) (hk : k ≤ 300)
    (hQ : ∀ (f : Nat → Value) (w3 : World) (v : Value), Grew W T k xs (linkCells (pa, pb)) v w3 → Q .normal (putsR A 43 f 16) (w3.setCell ⟨T, 2, none⟩ v)) : (Code.region id ops true).wp Ybad.prog Q A W := by
  obtain ⟨i58, hi58, hz580, hz581, hz582⟩ := info_parts info58
  have hTl := (Array.getElem?_eq_some_iff.1 hT).1
  have hBl := (Array.getElem?_eq_some_iff.1 hB).1
  refine wp_region_held (S := fun _ => True) hm ?_
  have hev := fun f i hi => FR_eval A 43 16 hA f i hi
  have hot := FR_other A 43 16
  have key := wpAnyH_inv (P := Ybad.prog) (Q := Q) (fun listed a w => ∃ f, a = FR A 43 16 f ∧ J11 W T B k (.slice aS k cS) pa pb xs listed f w) hlow ?step ?done ops.size (Array.replicate ops.size false) A W.drew (by simp) (by simp) ?closed ⟨fun i => A.eval (.tmp (43 + i)), (FR_self A 43 16).symm, ?init⟩
  · exact key
  case closed =>
    intro i j hi _
    simp only [Array.getD_eq_getD_getElem?, Array.getElem?_replicate] at hi
    split at hi <;> cases hi
  case init =>
    have hn : ∀ i, (Array.replicate ops.size false).getD i false = false := by
      intro i
      simp only [Array.getD_eq_getD_getElem?, Array.getElem?_replicate]
      split <;> rfl
    refine ⟨fun i _ _ h => ?_, fun _ => ?_, fun h => ?_, fun h => ?_⟩
    · rw [hn] at h; cases h
    · rw [hn]; rfl
    · rw [hn] at h; cases h
    · rw [hn] at h; cases h
  case done =>
    rintro listed a w ⟨f, rfl, _, _, _, h4⟩ hall
    obtain ⟨w3, hg, rfl⟩ := h4 (hall 16 (by omega))
    rw [FR_puts]
    exact hQ f w3 _ hg
  case step =>
    rintro listed a w hs hcl ⟨f, rfl, hJ⟩ i hi hu hd
    have hd' : ∀ j, (i, j) ∈ edges11 → listed.getD j false = true := fun j hj => hd j (hw (i, j) hj)
    have his : i < listed.size := by omega
    obtain ⟨hv, hw1, hw3, hw4⟩ := hJ
    have h16 : listed.getD 16 false = false := by
      cases hb : listed.getD 16 false with
      | false => rfl
      | true =>
        exfalso
        have t15 := hcl 16 15 hb (hw (16, 15) (by decide))
        have t14 := hcl 15 14 t15 (hw (15, 14) (by decide))
        have t13 := hcl 16 13 hb (hw (16, 13) (by decide))
        have t0 := hcl 14 0 t14 (hw (14, 0) (by decide))
        have : listed.getD i false = true := by
          rcases Nat.lt_or_ge i 13 with h | h
          · by_cases h0 : i = 0
            · rw [h0]; exact t0
            · exact all13 hw hcl t13 i h h0
          · have : i = 13 ∨ i = 14 ∨ i = 15 ∨ i = 16 := by omega
            rcases this with rfl | rfl | rfl | rfl
            · exact t13
            · exact t14
            · exact t15
            · exact hb
        rw [this] at hu; cases hu
    -- a value that hangs on no world
    have pure_ : ∀ (o : Oper), ops[i]? = some o → o.guard = none → o.dst = some (43 + i) → i < 16 → i ≠ 13 → i ≠ 12 → (execOp (FR A 43 16 f).eval o).run Ybad.prog w = .ok (.value (vals11 W T B (.slice aS k cS) pa pb i)) w → wpOp Ybad.prog ops Q i (fun a' w' => ∃ f, a' = FR A 43 16 f ∧ J11 W T B k (.slice aS k cS) pa pb xs (listed.setIfInBounds i true) f w') (FR A 43 16 f) w := by
      intro o ho hg hds h1 h2 h3 hr
      refine wpOp_val ho hg hr ⟨upd f i (vals11 W T B (.slice aS k cS) pa pb i), by rw [hds]; exact FR_put A 43 16 f i _ h1, ?_, ?_, ?_, ?_⟩
      · intro j hj hj13 hl
        rw [set_getD _ _ _ his] at hl
        show (if j = i then _ else f j) = _
        by_cases hij : i = j
        · subst hij; rw [if_pos rfl]
        · rw [if_neg hij] at hl
          rw [if_neg (Ne.symm hij)]
          exact hv j hj hj13 hl
      · intro h
        rw [set_getD _ _ _ his, if_neg h2] at h
        rw [set_getD _ _ _ his, if_neg h3]
        exact hw1 h
      · intro h h'
        rw [set_getD _ _ _ his, if_neg h2] at h
        have e : upd f i (vals11 W T B (.slice aS k cS) pa pb i) 13 = f 13 := if_neg (Ne.symm h2)
        rw [e]
        exact hw3 h h16
      · intro h
        rw [set_getD _ _ _ his, if_neg (by omega), h16] at h; cases h
    have n13 : i < 13 → i ≠ 0 → listed.getD 13 false = false := by
      intro h h0
      cases hb : listed.getD 13 false with
      | false => rfl
      | true => rw [all13 hw hcl hb i h h0] at hu; cases hu
    have cT : i < 13 → i ≠ 0 → w.heap[T]? = some (.cells #[.slice none 0 0, .slice none 0 0, .slice aS k cS, .slice none 0 0] 30 (0, 0)) := by
      intro h h0
      rw [hw1 (n13 h h0)]
      split
      · exact blk_keep hT
      · exact hT
    have cB : i < 13 → i ≠ 0 → w.heap[B]? = some (.cells #[.string pa, .string pb] 54 (0, 0)) := by
      intro h h0
      rw [hw1 (n13 h h0)]
      split
      · exact blk_keep hB
      · exact hB
    have val : ∀ j, j < 16 → j ≠ 13 → (i, j) ∈ edges11 → (FR A 43 16 f).eval (.tmp (43 + j)) = vals11 W T B (.slice aS k cS) pa pb j := fun j hj hj13 he => (hev f j hj).trans (hv j hj hj13 (hd' j he))
    match i, hi, pure_, val, cT, cB, hd' with
    | 0, _, pure_, _, _, _, _ =>
      obtain ⟨o, ho, hop, hg, hds⟩ := o0
      exact pure_ o ho hg hds (by omega) (by omega) (by omega) ((exec_move hop).trans (by rw [hot f 9 (by omega), h9]; rfl))
    | 1, _, pure_, _, _, _, _ =>
      obtain ⟨o, ho, hop, hg, hds⟩ := o1
      exact pure_ o ho hg hds (by omega) (by omega) (by omega) ((exec_move hop).trans (by rw [hot f 9 (by omega), h9]; rfl))
    | 2, _, pure_, val, _, _, _ =>
      obtain ⟨o, ho, hop, hg, hds⟩ := o2
      exact pure_ o ho hg hds (by omega) (by omega) (by omega) (exec_nil hop (val 1 (by omega) (by omega) (by decide)))
    | 3, _, pure_, val, _, _, _ =>
      obtain ⟨o, ho, hop, hg, hds⟩ := o3
      exact pure_ o ho hg hds (by omega) (by omega) (by omega) (exec_field (field30_2 w T) hop (val 2 (by omega) (by omega) (by decide)))
    | 4, _, pure_, val, cT, _, _ =>
      obtain ⟨o, ho, hop, hg, hds⟩ := o4
      exact pure_ o ho hg hds (by omega) (by omega) (by omega) (exec_load1 (load_cell agg27 w ⟨T, 2, none⟩ _ (cell_of_row _ _ _ _ _ _ (cT (by omega) (by omega)))) hop (val 3 (by omega) (by omega) (by decide)))
    | 5, _, pure_, val, _, _, _ =>
      obtain ⟨o, ho, hop, hg, hds⟩ := o5
      exact pure_ o ho hg hds (by omega) (by omega) (by omega) (exec_field (field54_0 w B) hop ((hot f 11 (by omega)).trans h11))
    | 6, _, pure_, val, _, cB, _ =>
      obtain ⟨o, ho, hop, hg, hds⟩ := o6
      exact pure_ o ho hg hds (by omega) (by omega) (by omega) (exec_load1 (load_cell agg9 w ⟨B, 0, none⟩ _ (cell_of_row _ _ _ _ _ _ (cB (by omega) (by omega)))) hop (val 5 (by omega) (by omega) (by decide)))
    | 7, _, pure_, val, _, _, _ =>
      obtain ⟨o, ho, hop, hg, hds⟩ := o7
      have e : (FR A 43 16 f).eval (.tmp 49) = .string pa := val 6 (by omega) (by omega) (by decide)
      exact pure_ o ho hg hds (by omega) (by omega) (by omega) (exec_build hop (by simp only [List.map_toArray, List.map_cons, List.map_nil, e]) (build56 pa w))
    | 8, _, pure_, val, _, _, _ =>
      obtain ⟨o, ho, hop, hg, hds⟩ := o8
      exact pure_ o ho hg hds (by omega) (by omega) (by omega) (exec_field (field54_1 w B) hop ((hot f 11 (by omega)).trans h11))
    | 9, _, pure_, val, _, cB, _ =>
      obtain ⟨o, ho, hop, hg, hds⟩ := o9
      exact pure_ o ho hg hds (by omega) (by omega) (by omega) (exec_load1 (load_cell agg9 w ⟨B, 1, none⟩ _ (cell_of_row _ _ _ _ _ _ (cB (by omega) (by omega)))) hop (val 8 (by omega) (by omega) (by decide)))
    | 10, _, pure_, val, _, _, _ =>
      obtain ⟨o, ho, hop, hg, hds⟩ := o10
      have e : (FR A 43 16 f).eval (.tmp 52) = .string pb := val 9 (by omega) (by omega) (by decide)
      exact pure_ o ho hg hds (by omega) (by omega) (by omega) (exec_build hop (by simp only [List.map_toArray, List.map_cons, List.map_nil, e]) (build56 pb w))
    | 11, _, pure_, val, _, _, _ =>
      obtain ⟨o, ho, hop, hg, hds⟩ := o11
      have e1 : (FR A 43 16 f).eval (.tmp 50) = .agg (endCells pa).toArray := val 7 (by omega) (by omega) (by decide)
      have e2 : (FR A 43 16 f).eval (.tmp 53) = .agg (endCells pb).toArray := val 10 (by omega) (by omega) (by decide)
      exact pure_ o ho hg hds (by omega) (by omega) (by omega) (exec_build hop (by simp only [List.map_toArray, List.map_cons, List.map_nil, e1, e2]) (build58 pa pb w))
    | 12, _, _, val, _, _, _ =>
      obtain ⟨o, ho, hop, hg, hds⟩ := o12
      have h13 := n13 (by omega) (by omega)
      have ew := hw1 h13
      rw [hu] at ew
      have e1 : (FR A 43 16 f).eval (.tmp 54) = .agg (linkCells (pa, pb)).toArray := val 11 (by omega) (by omega) (by decide)
      subst ew
      refine wpOp_val ho hg (exec_slice hop (by simp only [List.map_toArray, List.map_cons, List.map_nil, e1]) (slice27 pa pb _)) ⟨upd f 12 (vals11 W T B (.slice aS k cS) pa pb 12), by rw [hds]; exact FR_put A 43 16 f 12 _ (by omega), ?_, ?_, ?_, ?_⟩
      · intro j hj hj13 hl
        rw [set_getD _ _ _ his] at hl
        show (if j = 12 then _ else f j) = _
        by_cases hij : 12 = j
        · subst hij; rw [if_pos rfl]
        · rw [if_neg hij] at hl
          rw [if_neg (Ne.symm hij)]
          exact hv j hj hj13 hl
      · intro h
        rw [set_getD _ _ _ his, if_pos rfl, if_pos rfl]
        rfl
      · intro h
        rw [set_getD _ _ _ his, if_neg (by omega), h13] at h; cases h
      · intro h
        rw [set_getD _ _ _ his, if_neg (by omega), h16] at h; cases h
    | 13, _, _, val, _, _, hd' =>
      obtain ⟨o, ho, hop, hg, hds⟩ := o13
      have ew := hw1 hu
      rw [hd' 12 (by decide), if_pos rfl] at ew
      have e1 : (FR A 43 16 f).eval (.tmp 47) = .slice aS k cS := val 4 (by omega) (by omega) (by decide)
      have e2 : (FR A 43 16 f).eval (.tmp 55) = .slice (some ⟨W.heap.size, 0, none⟩) 1 1 := val 12 (by omega) (by omega) (by decide)
      have hBX : Below W.heap.size W w := by rw [ew]; exact below_al0 (Below.refl _ _).drew
      have r3 : w.heap[W.heap.size]? = some (.cells (linkCells (pa, pb)).toArray 58 (0, 0)) := by rw [ew]; exact heap1a W.drew _
      have hlX := hBX.size
      refine wpOp_step ho fun K' hK => step_append_own hg (.tmp 47) (.tmp 55) 27 hop (T + 1) 58 i58 (.agg (linkCells (⟨#[]⟩, ⟨#[]⟩)).toArray) 18 160 Ybad.underlying27 hi58 hz580 hz581 hz582 rfl (by decide) (.slice aS k cS) k xs e1 (owns_below hP hBX) ⟨W.heap.size, 0, none⟩ 1 1 (linkCells (pa, pb)) e2 rfl (fun j u hu => by rw [cell_at r3]; simpa using hu) (one18 pa pb) (by unfold maxLen; omega) (by omega) (by omega) (fun v' w3 hown hg3 => hK _ _ ⟨upd f 13 v', by rw [hds]; exact FR_put A 43 16 f 13 _ (by omega), ?_, ?_, ?_, ?_⟩)
      · intro j hj hj13 hl
        rw [set_getD _ _ _ his, if_neg (Ne.symm hj13)] at hl
        show (if j = 13 then _ else f j) = _
        rw [if_neg hj13]
        exact hv j hj hj13 hl
      · intro h
        rw [set_getD _ _ _ his, if_pos rfl] at h; cases h
      · intro _ _
        show Grew W T k xs (linkCells (pa, pb)) v' w3
        refine ⟨?_, hown, (hBX.mono (by omega)).grown hg3 (by omega) (fun q hq => (hP.lt q hq).1)⟩
        rcases hown.2 with ⟨rfl, e⟩ | ⟨g, cap, _, e, _⟩
        · omega
        · exact ⟨_, _, e⟩
      · intro h
        rw [set_getD _ _ _ his, if_neg (by omega), h16] at h; cases h
    | 14, _, pure_, val, _, _, _ =>
      obtain ⟨o, ho, hop, hg, hds⟩ := o14
      exact pure_ o ho hg hds (by omega) (by omega) (by omega) (exec_nil hop (val 0 (by omega) (by omega) (by decide)))
    | 15, _, pure_, val, _, _, _ =>
      obtain ⟨o, ho, hop, hg, hds⟩ := o15
      exact pure_ o ho hg hds (by omega) (by omega) (by omega) (exec_field (field30_2 w T) hop (val 14 (by omega) (by omega) (by decide)))
    | 16, _, _, val, _, _, hd' =>
      obtain ⟨o, ho, hop, hg, hds⟩ := o16
      have e1 : (FR A 43 16 f).eval (.tmp 58) = .pointer (some ⟨T, 2, none⟩) := val 15 (by omega) (by omega) (by decide)
      have e2 : (FR A 43 16 f).eval (.tmp 56) = f 13 := hev f 13 (by omega)
      obtain ⟨⟨av, cv, hav⟩, hown, hbl⟩ := hw3 (hd' 13 (by decide)) hu
      have hT3 := (hbl.block T (by omega)).trans hT
      rw [hav] at e2
      refine wpOp_store ho hg hds hop e1 e2 (store_slice size27 w T 2 av (k + 1) cv _ (cell_of_row _ _ _ _ _ _ hT3) (frozen_of_row _ _ _ _ _ hT3)) ⟨f, rfl, ?_, ?_, ?_, ?_⟩
      · intro j hj hj13 hl
        rw [set_getD _ _ _ his, if_neg (by omega)] at hl
        exact hv j hj hj13 hl
      · intro h
        rw [set_getD _ _ _ his, if_neg (by omega), hd' 13 (by decide)] at h; cases h
      · intro _ h
        rw [set_getD _ _ _ his, if_pos rfl] at h; cases h
      · intro _
        exact ⟨w, ⟨⟨av, cv, hav⟩, hown, hbl⟩, by rw [hav]⟩
    | n + 17, h, _, _, _, _, _ => omega

end Go.Proofs.YbulkcrxaDoor
