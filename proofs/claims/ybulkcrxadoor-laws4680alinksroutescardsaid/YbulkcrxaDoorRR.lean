import Derived.Test.YbulkcrxaDoorQ
namespace Go.Proofs.YbulkcrxaDoor
open Go.RowKit
def gwZeros : Nat → List Value
  | 0 => []
  | n + 1 => gwZeros n ++ [.int .u64 0, .int .u64 0, .pointer none]
theorem exec_rem5 {ρ : Operand → Value} {o : Oper} {x : Operand} {w : World} {q : Int} (h0 : 0 ≤ q) (_h1 : q ≤ 255) (t : TypeId) (ho : o.op = .binOp .rem 5 x (.const (.int .u8 5)) t) (hx : ρ x = .int .u8 q) (hc : ρ (.const (.int .u8 5)) = .int .u8 5) : (execOp ρ o).run Ybad.prog w = .ok (.value (.int .u8 (q % 5))) w := by
  unfold execOp
  simp only [ho, hx, hc]
  simp [go_sem]
  exact Int.tmod_eq_emod_of_nonneg h0
theorem exec_conv {ρ : Operand → Value} {o : Oper} {x : Operand} {w : World} {q : Int} (h0 : 0 ≤ q) (h1 : q ≤ 255) (ho : o.op = .convert 5 3 x) (hx : ρ x = .int .u8 q) : (execOp ρ o).run Ybad.prog w = .ok (.value (.int .i64 q)) w := by
  unfold execOp
  simp only [ho, hx]
  simp [go_sem]
  simp only [IntKind.wrap, IntKind.bits, IntKind.signed]
  simp
  omega
theorem make61 (w : World) : ∀ g : Nat, g ≤ 4 → (Instr.makeSlice 61 (.int .i64 g) (.int .i64 g)).run Ybad.prog w = .ok (.slice (some ⟨w.heap.size, 0, none⟩) g g) (w.alloc (.cells (gwZeros g).toArray 49))
  | 0, _ => by kernel_rfl
  | 1, _ => by kernel_rfl
  | 2, _ => by kernel_rfl
  | 3, _ => by kernel_rfl
  | 4, _ => by kernel_rfl
  | n + 5, h => by omega
theorem exec_make {P : Program} {ρ : Operand → Value} {o : Oper} {w w' : World} {t : TypeId} {x y : Operand} {v1 v2 v : Value} (ho : o.op = .makeSlice t x y) (hx : ρ x = v1) (hy : ρ y = v2) (hr : (Instr.makeSlice t v1 v2).run P w = .ok v w') : (execOp ρ o).run P w = .ok (.value v) w' := by
  unfold execOp
  simp only [ho, hx, hy, hr, Sem.run_bind, Sem.run_pure, Result.andThen_ok]
theorem build63 (x : ByteArray) (n : Nat) (a : Option Addr) (l c : Nat) (w : World) : (Instr.build 63 #[(0, .string x), (2, .slice a l c)]).run Ybad.prog w = .ok (.agg (routeCells (x, n, .slice a l c)).toArray) w := by kernel_rfl
theorem slice28 (x : ByteArray) (n : Nat) (a : Option Addr) (l c : Nat) (w : World) : (Instr.buildSlice 28 1 #[(0, .agg (routeCells (x, n, .slice a l c)).toArray)]).run Ybad.prog w = .ok (.slice (some ⟨w.heap.size, 0, none⟩) 1 1) (w.alloc (.cells (routeCells (x, n, .slice a l c)).toArray 63)) := by kernel_rfl
theorem field30_3 (w : World) (b : Nat) : (Instr.fieldAt 30 (.pointer (some ⟨b, 0, none⟩)) 3).run Ybad.prog w = .ok (.pointer (some ⟨b, 3, none⟩)) w := by kernel_rfl
theorem field60_0 (w : World) (b : Nat) : (Instr.fieldAt 60 (.pointer (some ⟨b, 0, none⟩)) 0).run Ybad.prog w = .ok (.pointer (some ⟨b, 0, none⟩)) w := by kernel_rfl
theorem field60_1 (w : World) (b : Nat) : (Instr.fieldAt 60 (.pointer (some ⟨b, 0, none⟩)) 1).run Ybad.prog w = .ok (.pointer (some ⟨b, 1, none⟩)) w := by kernel_rfl
theorem info63 : (Ybad.prog.info? 63).map (fun i => (i.zero, i.size, i.bytes)) = some (some (.agg (routeCells (⟨#[]⟩, 0, .slice none 0 0)).toArray), 6, 72) := by kernel_rfl
theorem owns_ne_block {w : World} {base e size n b t : Nat} {v : Value} {xs : List Value} (h : w.ownsRow base e size v n xs) {cs : Array Value} (hb : w.heap[b]? = some (.cells cs t (0, 0))) (ht : t ≠ e) : some b ≠ v.ownBlock := by
  rcases h.2 with ⟨rfl, _⟩ | ⟨g, cap, cur, rfl, _, hg, _⟩
  · simp [Value.ownBlock]
  · intro q
    simp only [Value.ownBlock, Option.some.injEq] at q
    subst q
    rw [hg] at hb
    simp only [Option.some.injEq, Obj.cells.injEq] at hb
    exact ht hb.2.1.symm

def opAt66 (ops : Array Oper) (i : Nat) (op : Op) : Prop := ∃ o, ops[i]? = some o ∧ o.op = op ∧ o.guard = none ∧ o.dst = some (66 + i)
def gwOf (W : World) (q : Int) : Value := .slice (some ⟨W.heap.size, 0, none⟩) (q % 5).toNat (q % 5).toNat
def vals16 (W : World) (T B : Nat) (vR : Value) (pn : ByteArray) (q : Int) : Nat → Value
  | 0 => .pointer (some ⟨T, 0, none⟩)
  | 1 => .pointer (some ⟨T, 0, none⟩)
  | 2 => .pointer (some ⟨T, 0, none⟩)
  | 3 => .pointer (some ⟨T, 3, none⟩)
  | 4 => vR
  | 5 => .pointer (some ⟨B, 0, none⟩)
  | 6 => .string pn
  | 7 => .pointer (some ⟨B, 1, none⟩)
  | 8 => .int .u8 q
  | 9 => .int .u8 (q % 5)
  | 10 => .int .i64 (q % 5)
  | 11 => gwOf W q
  | 12 => .agg (routeCells (pn, (q % 5).toNat, gwOf W q)).toArray
  | 13 => .slice (some ⟨W.heap.size + 1, 0, none⟩) 1 1
  | 15 => .pointer (some ⟨T, 0, none⟩)
  | 16 => .pointer (some ⟨T, 3, none⟩)
  | _ => undef
def edges16 : List (Nat × Nat) := [(2, 1), (3, 2), (4, 3), (6, 5), (8, 7), (9, 8), (10, 9), (11, 10), (12, 6), (12, 11), (13, 12), (14, 4), (14, 13), (15, 0), (15, 14), (16, 15), (17, 16), (17, 14)]

theorem all14 {ops : Array Oper} (hw : ∀ p ∈ edges16, waits? .any ops p.1 p.2 = true) {listed : Array Bool} (hcl : Closed .any ops listed) (h : listed.getD 14 false = true) (i : Nat) (hi : i < 14) (h0 : i ≠ 0) : listed.getD i false = true := by
  have go : ∀ a b, (a, b) ∈ edges16 → listed.getD a false = true → listed.getD b false = true := fun a b hab ha => hcl a b ha (hw (a, b) hab)
  have h13 := go 14 13 (by decide) h
  have h12 := go 13 12 (by decide) h13
  have h11 := go 12 11 (by decide) h12
  have h10 := go 11 10 (by decide) h11
  have h9 := go 10 9 (by decide) h10
  have h8 := go 9 8 (by decide) h9
  have h6 := go 12 6 (by decide) h12
  have h4 := go 14 4 (by decide) h
  have h3 := go 4 3 (by decide) h4
  have h2 := go 3 2 (by decide) h3
  match i, hi, h0 with
  | 1, _, _ => exact go 2 1 (by decide) h2
  | 2, _, _ => exact h2
  | 3, _, _ => exact h3
  | 4, _, _ => exact h4
  | 5, _, _ => exact go 6 5 (by decide) h6
  | 6, _, _ => exact h6
  | 7, _, _ => exact go 8 7 (by decide) h8
  | 8, _, _ => exact h8
  | 9, _, _ => exact h9
  | 10, _, _ => exact h10
  | 11, _, _ => exact h11
  | 12, _, _ => exact h12
  | 13, _, _ => exact h13
  | n + 14, h, _ => omega

def W16a (W : World) (q : Int) : World := W.drew.alloc (.cells (gwZeros (q % 5).toNat).toArray 49)
def W16b (W : World) (pn : ByteArray) (q : Int) : World := (W16a W q).alloc (.cells (routeCells (pn, (q % 5).toNat, gwOf W q)).toArray 63)
def GrewR (W : World) (T k : Nat) (pn : ByteArray) (q : Int) (xs : List Value) (v : Value) (w3 : World) : Prop :=
  (∃ a c, v = .slice a (k + 1) c) ∧ w3.ownsRow (T + 1) 63 6 v (k + 1) (xs ++ routeCells (pn, (q % 5).toNat, gwOf W q)) ∧ Below (T + 1) W w3 ∧ ∃ row, (∀ b t cs, t ≠ 63 → W.heap[b]? = some (.cells cs t (0, 0)) → some b ≠ row) ∧ (W16b W pn q).grownBy w3 row ∧ some W.heap.size ≠ row

def J16 (W : World) (T B k : Nat) (vR : Value) (pn : ByteArray) (q : Int) (xs : List Value) (listed : Array Bool) (f : Nat → Value) (w : World) : Prop :=
  (∀ i, i < 17 → i ≠ 14 → listed.getD i false = true → f i = vals16 W T B vR pn q i) ∧
  (listed.getD 14 false = false → w = if listed.getD 13 false = true then W16b W pn q else if listed.getD 11 false = true then W16a W q else W.drew) ∧
  (listed.getD 14 false = true → listed.getD 17 false = false → GrewR W T k pn q xs (f 14) w) ∧
  (listed.getD 17 false = true → ∃ w3, GrewR W T k pn q xs (f 14) w3 ∧ w = w3.setCell ⟨T, 3, none⟩ (f 14))

set_option maxHeartbeats 1000000 in
theorem routes_region {ops : Array Oper} {Q : Exit → Act → World → Prop} {W : World} {T B k : Nat} {pn : ByteArray} {q : Int} {vL : Value} {aS : Option Addr} {cS : Nat} {xs : List Value} {id : Nat} (A : Act) (hA : 83 ≤ A.tmps.size) (h9 : A.eval (.tmp 9) = .pointer (some ⟨T, 0, none⟩)) (h13 : A.eval (.tmp 13) = .pointer (some ⟨B, 0, none⟩))
    (hsz : ops.size = 18) (hlow : lowEdges .any ops = true) (hw : ∀ p ∈ edges16, waits? .any ops p.1 p.2 = true) (hm : Ybad.prog.follows .mixedOrders = true)
    (o0 : opAt66 ops 0 (.move (.tmp 9))) (o1 : opAt66 ops 1 (.move (.tmp 9))) (o2 : opAt66 ops 2 (.nilCheck (.tmp 67))) (o3 : opAt66 ops 3 (.fieldAddr 30 (.tmp 68) 3)) (o4 : opAt66 ops 4 (.load 28 (.tmp 69))) (o5 : opAt66 ops 5 (.fieldAddr 60 (.tmp 13) 0)) (o6 : opAt66 ops 6 (.load 9 (.tmp 71)))
    (o7 : opAt66 ops 7 (.fieldAddr 60 (.tmp 13) 1)) (o8 : opAt66 ops 8 (.load 5 (.tmp 73))) (o9 : opAt66 ops 9 (.binOp .rem 5 (.tmp 74) (.const (.int .u8 5)) 5)) (o10 : opAt66 ops 10 (.convert 5 3 (.tmp 75))) (o11 : opAt66 ops 11 (.makeSlice 61 (.tmp 76) (.tmp 76))) (o12 : opAt66 ops 12 (.build 63 #[(0, .tmp 72), (2, .tmp 77)])) (o13 : opAt66 ops 13 (.buildSlice 28 1 #[(0, .tmp 78)]))
    (o14 : opAt66 ops 14 (.call { callee := .builtin .append, args := #[.tmp 70, .tmp 79], argTypes := #[28, 28] })) (o15 : opAt66 ops 15 (.nilCheck (.tmp 66))) (o16 : opAt66 ops 16 (.fieldAddr 30 (.tmp 81) 3)) (o17 : ∃ o, ops[17]? = some o ∧ o.op = .store 28 (.tmp 82) (.tmp 80) ∧ o.guard = none ∧ o.dst = none)
    (hT : W.heap[T]? = some (.cells #[.slice none 0 0, .slice none 0 0, vL, .slice aS k cS] 30 (0, 0))) (hB : W.heap[B]? = some (.cells #[.string pn, .int .u8 q] 60 (0, 0))) (hP : W.ownsRow (T + 1) 63 6 (.slice aS k cS) k xs) (hk : k ≤ 300) (hq0 : 0 ≤ q) (hq1 : q ≤ 255)
    (hQ : ∀ (f : Nat → Value) (w3 : World) (v : Value), GrewR W T k pn q xs v w3 → Q .normal (putsR A 66 f 17) (w3.setCell ⟨T, 3, none⟩ v)) : (Code.region id ops true).wp Ybad.prog Q A W := by
  obtain ⟨i63, hi63, hz630, hz631, hz632⟩ := info_parts info63
  have hTl := (Array.getElem?_eq_some_iff.1 hT).1
  have hBl := (Array.getElem?_eq_some_iff.1 hB).1
  have hm0 : 0 ≤ q % 5 := Int.emod_nonneg _ (by omega)
  have hm1 : q % 5 < 5 := Int.emod_lt_of_pos _ (by omega)
  have hgn : ((q % 5).toNat : Int) = q % 5 := Int.toNat_of_nonneg hm0
  refine wp_region_held (S := fun _ => True) hm ?_
  have hev := fun f i hi => FR_eval A 66 17 hA f i hi
  have hot := FR_other A 66 17
  have key := wpAnyH_inv (P := Ybad.prog) (Q := Q) (fun listed a w => ∃ f, a = FR A 66 17 f ∧ J16 W T B k (.slice aS k cS) pn q xs listed f w) hlow ?step ?done ops.size (Array.replicate ops.size false) A W.drew (by simp) (by simp) ?closed ⟨fun i => A.eval (.tmp (66 + i)), (FR_self A 66 17).symm, ?init⟩
  · exact key
  case closed =>
    intro i j hi _
    simp only [Array.getD_eq_getD_getElem?, Array.getElem?_replicate] at hi
    split at hi <;> cases hi
  case init =>
    have hn : ∀ i, (Array.replicate ops.size false).getD i false = false := by
      intro i
      simp only [Array.getD_eq_getD_getElem?, Array.getElem?_replicate]
      split <;> rfl
    refine ⟨fun i _ _ h => ?_, fun _ => ?_, fun h => ?_, fun h => ?_⟩
    · rw [hn] at h; cases h
    · rw [hn, hn]; rfl
    · rw [hn] at h; cases h
    · rw [hn] at h; cases h
  case done =>
    rintro listed a w ⟨f, rfl, _, _, _, h4⟩ hall
    obtain ⟨w3, hg, rfl⟩ := h4 (hall 17 (by omega))
    rw [FR_puts]
    exact hQ f w3 _ hg
  case step =>
    rintro listed a w hs hcl ⟨f, rfl, hJ⟩ i hi hu hd
    have hd' : ∀ j, (i, j) ∈ edges16 → listed.getD j false = true := fun j hj => hd j (hw (i, j) hj)
    have his : i < listed.size := by omega
    obtain ⟨hv, hw1, hw3, hw4⟩ := hJ
    have h17 : listed.getD 17 false = false := by
      cases hb : listed.getD 17 false with
      | false => rfl
      | true =>
        exfalso
        have t16 := hcl 17 16 hb (hw (17, 16) (by decide))
        have t15 := hcl 16 15 t16 (hw (16, 15) (by decide))
        have t14 := hcl 17 14 hb (hw (17, 14) (by decide))
        have t0 := hcl 15 0 t15 (hw (15, 0) (by decide))
        have : listed.getD i false = true := by
          rcases Nat.lt_or_ge i 14 with h | h
          · by_cases h0 : i = 0
            · rw [h0]; exact t0
            · exact all14 hw hcl t14 i h h0
          · have : i = 14 ∨ i = 15 ∨ i = 16 ∨ i = 17 := by omega
            rcases this with rfl | rfl | rfl | rfl
            · exact t14
            · exact t15
            · exact t16
            · exact hb
        rw [this] at hu; cases hu
    have vkeep : ∀ (v : Value), v = vals16 W T B (.slice aS k cS) pn q i → ∀ j, j < 17 → j ≠ 14 → (listed.setIfInBounds i true).getD j false = true → upd f i v j = vals16 W T B (.slice aS k cS) pn q j := by
      intro v hvv j hj hj14 hl
      rw [set_getD _ _ _ his] at hl
      show (if j = i then _ else f j) = _
      by_cases hij : i = j
      · subst hij; rw [if_pos rfl]; exact hvv
      · rw [if_neg hij] at hl
        rw [if_neg (Ne.symm hij)]
        exact hv j hj hj14 hl
    have pure_ : ∀ (o : Oper), ops[i]? = some o → o.guard = none → o.dst = some (66 + i) → i < 17 → i ≠ 14 → i ≠ 13 → i ≠ 11 → (execOp (FR A 66 17 f).eval o).run Ybad.prog w = .ok (.value (vals16 W T B (.slice aS k cS) pn q i)) w → wpOp Ybad.prog ops Q i (fun a' w' => ∃ f, a' = FR A 66 17 f ∧ J16 W T B k (.slice aS k cS) pn q xs (listed.setIfInBounds i true) f w') (FR A 66 17 f) w := by
      intro o ho hg hds h1 h2 h3 h3' hr
      refine wpOp_val ho hg hr ⟨upd f i (vals16 W T B (.slice aS k cS) pn q i), by rw [hds]; exact FR_put A 66 17 f i _ h1, vkeep _ rfl, ?_, ?_, ?_⟩
      · intro h
        rw [set_getD _ _ _ his, if_neg h2] at h
        rw [set_getD _ _ _ his, set_getD _ _ _ his, if_neg h3, if_neg h3']
        exact hw1 h
      · intro h h'
        rw [set_getD _ _ _ his, if_neg h2] at h
        have e : upd f i (vals16 W T B (.slice aS k cS) pn q i) 14 = f 14 := if_neg (Ne.symm h2)
        rw [e]
        exact hw3 h h17
      · intro h
        rw [set_getD _ _ _ his, if_neg (by omega), h17] at h; cases h
    have n14 : i < 14 → i ≠ 0 → listed.getD 14 false = false := by
      intro h h0
      cases hb : listed.getD 14 false with
      | false => rfl
      | true => rw [all14 hw hcl hb i h h0] at hu; cases hu
    have cT : i < 14 → i ≠ 0 → w.heap[T]? = some (.cells #[.slice none 0 0, .slice none 0 0, vL, .slice aS k cS] 30 (0, 0)) := by
      intro h h0
      rw [hw1 (n14 h h0)]
      split
      · exact blk_keep (blk_keep hT)
      · split
        · exact blk_keep hT
        · exact hT
    have cB : i < 14 → i ≠ 0 → w.heap[B]? = some (.cells #[.string pn, .int .u8 q] 60 (0, 0)) := by
      intro h h0
      rw [hw1 (n14 h h0)]
      split
      · exact blk_keep (blk_keep hB)
      · split
        · exact blk_keep hB
        · exact hB
    have val : ∀ j, j < 17 → j ≠ 14 → (i, j) ∈ edges16 → (FR A 66 17 f).eval (.tmp (66 + j)) = vals16 W T B (.slice aS k cS) pn q j := fun j hj hj14 he => (hev f j hj).trans (hv j hj hj14 (hd' j he))
    match i, hi, pure_, val, cT, cB, hd', vkeep with
    | 0, _, pure_, _, _, _, _, _ =>
      obtain ⟨o, ho, hop, hg, hds⟩ := o0
      exact pure_ o ho hg hds (by omega) (by omega) (by omega) (by omega) ((exec_move hop).trans (by rw [hot f 9 (by omega), h9]; rfl))
    | 1, _, pure_, _, _, _, _, _ =>
      obtain ⟨o, ho, hop, hg, hds⟩ := o1
      exact pure_ o ho hg hds (by omega) (by omega) (by omega) (by omega) ((exec_move hop).trans (by rw [hot f 9 (by omega), h9]; rfl))
    | 2, _, pure_, val, _, _, _, _ =>
      obtain ⟨o, ho, hop, hg, hds⟩ := o2
      exact pure_ o ho hg hds (by omega) (by omega) (by omega) (by omega) (exec_nil hop (val 1 (by omega) (by omega) (by decide)))
    | 3, _, pure_, val, _, _, _, _ =>
      obtain ⟨o, ho, hop, hg, hds⟩ := o3
      exact pure_ o ho hg hds (by omega) (by omega) (by omega) (by omega) (exec_field (field30_3 w T) hop (val 2 (by omega) (by omega) (by decide)))
    | 4, _, pure_, val, cT, _, _, _ =>
      obtain ⟨o, ho, hop, hg, hds⟩ := o4
      exact pure_ o ho hg hds (by omega) (by omega) (by omega) (by omega) (exec_load1 (load_cell agg28 w ⟨T, 3, none⟩ _ (cell_of_row _ _ _ _ _ _ (cT (by omega) (by omega)))) hop (val 3 (by omega) (by omega) (by decide)))
    | 5, _, pure_, val, _, _, _, _ =>
      obtain ⟨o, ho, hop, hg, hds⟩ := o5
      exact pure_ o ho hg hds (by omega) (by omega) (by omega) (by omega) (exec_field (field60_0 w B) hop ((hot f 13 (by omega)).trans h13))
    | 6, _, pure_, val, _, cB, _, _ =>
      obtain ⟨o, ho, hop, hg, hds⟩ := o6
      exact pure_ o ho hg hds (by omega) (by omega) (by omega) (by omega) (exec_load1 (load_cell agg9 w ⟨B, 0, none⟩ _ (cell_of_row _ _ _ _ _ _ (cB (by omega) (by omega)))) hop (val 5 (by omega) (by omega) (by decide)))
    | 7, _, pure_, val, _, _, _, _ =>
      obtain ⟨o, ho, hop, hg, hds⟩ := o7
      exact pure_ o ho hg hds (by omega) (by omega) (by omega) (by omega) (exec_field (field60_1 w B) hop ((hot f 13 (by omega)).trans h13))
    | 8, _, pure_, val, _, cB, _, _ =>
      obtain ⟨o, ho, hop, hg, hds⟩ := o8
      exact pure_ o ho hg hds (by omega) (by omega) (by omega) (by omega) (exec_load1 (load_cell agg5 w ⟨B, 1, none⟩ _ (cell_of_row _ _ _ _ _ _ (cB (by omega) (by omega)))) hop (val 7 (by omega) (by omega) (by decide)))
    | 9, _, pure_, val, _, _, _, _ =>
      obtain ⟨o, ho, hop, hg, hds⟩ := o9
      exact pure_ o ho hg hds (by omega) (by omega) (by omega) (by omega) (exec_rem5 hq0 hq1 5 hop (val 8 (by omega) (by omega) (by decide)) rfl)
    | 10, _, pure_, val, _, _, _, _ =>
      obtain ⟨o, ho, hop, hg, hds⟩ := o10
      exact pure_ o ho hg hds (by omega) (by omega) (by omega) (by omega) (exec_conv hm0 (by omega) hop (val 9 (by omega) (by omega) (by decide)))
    | 11, _, _, val, _, _, _, vkeep =>
      obtain ⟨o, ho, hop, hg, hds⟩ := o11
      have h14 := n14 (by omega) (by omega)
      have h13' : listed.getD 13 false = false := by
        cases hb : listed.getD 13 false with
        | false => rfl
        | true =>
          have t12 := hcl 13 12 hb (hw (13, 12) (by decide))
          rw [hcl 12 11 t12 (hw (12, 11) (by decide))] at hu; cases hu
      have ew := hw1 h14
      rw [hu, h13'] at ew
      have e1 : (FR A 66 17 f).eval (.tmp 76) = .int .i64 ((q % 5).toNat : Int) := by rw [hgn]; exact val 10 (by omega) (by omega) (by decide)
      subst ew
      refine wpOp_val ho hg (exec_make hop e1 e1 (make61 _ (q % 5).toNat (by omega))) ⟨upd f 11 _, by rw [hds]; exact FR_put A 66 17 f 11 _ (by omega), vkeep _ rfl, ?_, ?_, ?_⟩
      · intro h
        rw [set_getD _ _ 13 his, set_getD _ _ 11 his, if_neg (show ¬ (11 : Nat) = 13 by omega), h13', if_pos (rfl : (11 : Nat) = 11)]
        rfl
      · intro h
        rw [set_getD _ _ _ his, if_neg (by omega), h14] at h; cases h
      · intro h
        rw [set_getD _ _ _ his, if_neg (by omega), h17] at h; cases h
    | 12, _, pure_, val, _, _, _, _ =>
      obtain ⟨o, ho, hop, hg, hds⟩ := o12
      have e1 : (FR A 66 17 f).eval (.tmp 72) = .string pn := val 6 (by omega) (by omega) (by decide)
      have e2 : (FR A 66 17 f).eval (.tmp 77) = .slice (some ⟨W.heap.size, 0, none⟩) (q % 5).toNat (q % 5).toNat := val 11 (by omega) (by omega) (by decide)
      exact pure_ o ho hg hds (by omega) (by omega) (by omega) (by omega) (exec_build hop (by simp only [List.map_toArray, List.map_cons, List.map_nil, e1, e2]) (build63 pn (q % 5).toNat _ _ _ w))
    | 13, _, _, val, _, _, hd', vkeep =>
      obtain ⟨o, ho, hop, hg, hds⟩ := o13
      have h14 := n14 (by omega) (by omega)
      have h11' := hcl 12 11 (hd' 12 (by decide)) (hw (12, 11) (by decide))
      have ew := hw1 h14
      rw [hu, h11'] at ew
      have e1 : (FR A 66 17 f).eval (.tmp 78) = .agg (routeCells (pn, (q % 5).toNat, .slice (some ⟨W.heap.size, 0, none⟩) (q % 5).toNat (q % 5).toNat)).toArray := val 12 (by omega) (by omega) (by decide)
      subst ew
      have hs2 : (W16a W q).heap.size = W.heap.size + 1 := by unfold W16a; simp
      refine wpOp_val ho hg (exec_slice hop (by simp only [List.map_toArray, List.map_cons, List.map_nil, e1]) (slice28 pn (q % 5).toNat (some ⟨W.heap.size, 0, none⟩) (q % 5).toNat (q % 5).toNat _)) ⟨upd f 13 _, by rw [hds]; exact FR_put A 66 17 f 13 _ (by omega), vkeep _ ?_, ?_, ?_, ?_⟩
      · show Value.slice (some ⟨(W16a W q).heap.size, 0, none⟩) 1 1 = _
        rw [hs2]; rfl
      · intro h
        rw [set_getD _ _ _ his, if_pos rfl, if_pos rfl]
        rfl
      · intro h
        rw [set_getD _ _ _ his, if_neg (by omega), h14] at h; cases h
      · intro h
        rw [set_getD _ _ _ his, if_neg (by omega), h17] at h; cases h
    | 14, _, _, val, _, _, hd', _ =>
      obtain ⟨o, ho, hop, hg, hds⟩ := o14
      have ew := hw1 hu
      rw [hd' 13 (by decide), if_pos rfl] at ew
      have e1 : (FR A 66 17 f).eval (.tmp 70) = .slice aS k cS := val 4 (by omega) (by omega) (by decide)
      have e2 : (FR A 66 17 f).eval (.tmp 79) = .slice (some ⟨W.heap.size + 1, 0, none⟩) 1 1 := val 13 (by omega) (by omega) (by decide)
      have hs2 : (W16a W q).heap.size = W.heap.size + 1 := by unfold W16a; simp
      have hBX : Below W.heap.size W w := by rw [ew]; exact below_al0 (below_al0 (Below.refl _ _).drew)
      have r3 : w.heap[W.heap.size + 1]? = some (.cells (routeCells (pn, (q % 5).toNat, gwOf W q)).toArray 63 (0, 0)) := by rw [ew]; exact heap_at _ _ _ hs2.symm
      have hlX := hBX.size
      refine wpOp_step ho fun K' hK => step_append_own hg (.tmp 70) (.tmp 79) 28 hop (T + 1) 63 i63 (.agg (routeCells (⟨#[]⟩, 0, .slice none 0 0)).toArray) 6 72 Ybad.underlying28 hi63 hz630 hz631 hz632 rfl (by decide) (.slice aS k cS) k xs e1 (owns_below hP hBX) ⟨W.heap.size + 1, 0, none⟩ 1 1 (routeCells (pn, (q % 5).toNat, gwOf W q)) e2 rfl (fun j u hu => by rw [cell_at r3]; simpa using hu) (one6 _ _ _ _ _) (by unfold maxLen; omega) (by omega) (by omega) (fun v' w3 hown hg3 => hK _ _ ⟨upd f 14 v', by rw [hds]; exact FR_put A 66 17 f 14 _ (by omega), ?_, ?_, ?_, ?_⟩)
      · intro j hj hj14 hl
        rw [set_getD _ _ _ his, if_neg (Ne.symm hj14)] at hl
        show (if j = 14 then _ else f j) = _
        rw [if_neg hj14]
        exact hv j hj hj14 hl
      · intro h
        rw [set_getD _ _ _ his, if_pos rfl] at h; cases h
      · intro _ _
        show GrewR W T k pn q xs v' w3
        refine ⟨?_, hown, (hBX.mono (by omega)).grown hg3 (by omega) (fun q hq => (hP.lt q hq).1), _, fun b t cs ht hb => owns_ne_block hP hb ht, by rw [← ew]; exact hg3, ?_⟩
        · rcases hown.2 with ⟨rfl, e⟩ | ⟨g, cap, _, e, _⟩
          · omega
          · exact ⟨_, _, e⟩
        · intro e
          have := (hP.lt _ e.symm).2
          omega
      · intro h
        rw [set_getD _ _ _ his, if_neg (by omega), h17] at h; cases h
    | 15, _, pure_, val, _, _, _, _ =>
      obtain ⟨o, ho, hop, hg, hds⟩ := o15
      exact pure_ o ho hg hds (by omega) (by omega) (by omega) (by omega) (exec_nil hop (val 0 (by omega) (by omega) (by decide)))
    | 16, _, pure_, val, _, _, _, _ =>
      obtain ⟨o, ho, hop, hg, hds⟩ := o16
      exact pure_ o ho hg hds (by omega) (by omega) (by omega) (by omega) (exec_field (field30_3 w T) hop (val 15 (by omega) (by omega) (by decide)))
    | 17, _, _, val, _, _, hd', _ =>
      obtain ⟨o, ho, hop, hg, hds⟩ := o17
      have e1 : (FR A 66 17 f).eval (.tmp 82) = .pointer (some ⟨T, 3, none⟩) := val 16 (by omega) (by omega) (by decide)
      have e2 : (FR A 66 17 f).eval (.tmp 80) = f 14 := hev f 14 (by omega)
      obtain ⟨⟨av, cv, hav⟩, hown, hbl, hrow⟩ := hw3 (hd' 14 (by decide)) hu
      have hT3 := (hbl.block T (by omega)).trans hT
      rw [hav] at e2
      refine wpOp_store ho hg hds hop e1 e2 (store_slice size28 w T 3 av (k + 1) cv _ (cell_of_row _ _ _ _ _ _ hT3) (frozen_of_row _ _ _ _ _ hT3)) ⟨f, rfl, ?_, ?_, ?_, ?_⟩
      · intro j hj hj14 hl
        rw [set_getD _ _ _ his, if_neg (by omega)] at hl
        exact hv j hj hj14 hl
      · intro h
        rw [set_getD _ _ _ his, if_neg (by omega), hd' 14 (by decide)] at h; cases h
      · intro _ h
        rw [set_getD _ _ _ his, if_pos rfl] at h; cases h
      · intro _
        exact ⟨w, ⟨⟨av, cv, hav⟩, hown, hbl, hrow⟩, by rw [hav]⟩
    | n + 18, h, _, _, _, _, _, _ => omega

end Go.Proofs.YbulkcrxaDoor
