import Derived.Test.YbulkcrtuC0
namespace Go.Proofs.Ybulkcrtu
open Go.RowKit Go.ChangeMaps Go.MapKept

theorem agg78 (w : World) : (isAgg 78).run Yba.prog w = .ok false w := by kernel_rfl
theorem agg4 (w : World) : (isAgg 4).run Yba.prog w = .ok false w := by kernel_rfl
theorem field114_9 (w : World) (b : Nat) : (Instr.fieldAt 114 (.pointer (some ⟨b, 0, none⟩)) 9).run Yba.prog w = .ok (.pointer (some ⟨b, 271, none⟩)) w := by kernel_rfl
theorem field114_10 (w : World) (b : Nat) : (Instr.fieldAt 114 (.pointer (some ⟨b, 0, none⟩)) 10).run Yba.prog w = .ok (.pointer (some ⟨b, 272, none⟩)) w := by kernel_rfl
theorem exec_not {ρ : Operand → Value} {o : Oper} {x : Operand} {w : World} (ho : o.op = .unOp .not 4 x) (hx : ρ x = .bool true) : (execOp ρ o).run Yba.prog w = .ok (.value (.bool false)) w := by
  unfold execOp
  simp only [ho, hx]
  simp [go_sem]
theorem exec_pick {ρ : Operand → Value} {o : Oper} {x y z : Operand} {w : World} (ho : o.op = .pick x y z) (hx : ρ x = .bool false) : (execOp ρ o).run Yba.prog w = .ok (.value (ρ z)) w := by
  unfold execOp
  simp only [ho, hx]
  rfl
theorem wpOp_skip {P : Program} {ops : Array Oper} {Q : Exit → Act → World → Prop} {i : Nat} {o : Oper} {K : Act → World → Prop} {a : Act} {w : World} (ho : ops[i]? = some o) (hw : Region.wanted o (yielded ops a.tmps) = false) (h : K (a.put o.dst undef) w) : wpOp P ops Q i K a w := by
  refine wpOp_step ho fun K' hK => ?_
  rw [if_neg (by rw [hw]; simp)]
  exact hK _ _ h
theorem enter43 (v : Value) (w : World) : (callFunc 43 (#[v] ++ #[])).run Yba.prog w = .ok (.enter 43 #[v]) w := by kernel_rfl
theorem exec_call43 {ρ : Operand → Value} {o : Oper} {x : Operand} {w : World} {v : Value} (hop : o.op = .call { callee := .value (.func 43), args := #[x], argTypes := #[78] }) (hf : ρ (.func 43) = .func (.func 43) #[] #[]) (hx : ρ x = v) : (execOp ρ o).run Yba.prog w = .ok (.enter 43 #[v]) w := by
  unfold execOp
  simp only [hop, resolve, hf, List.map_toArray, List.map_cons, List.map_nil, hx]
  exact enter43 v w
theorem wpOp_clone {ops : Array Oper} {Q : Exit → Act → World → Prop} {i : Nat} {o : Oper} {K : Act → World → Prop} {a : Act} {w : World} {x : Operand} {S n : Nat} (ho : ops[i]? = some o) (hg : o.guard = none) (hop : o.op = .call { callee := .value (.func 43), args := #[x], argTypes := #[78] }) (hx : a.eval x = .slice (some ⟨S, 0, none⟩) n n) (hn : n ≤ 5) (hS : w.heap[S]? = some (.cells (tcells n).toArray 118 (0, 0)))
    (h : ∀ a2 c2 w2, w2.ownsRow w.heap.size 118 3 (.slice a2 n c2) n (tcells n) → Below w.heap.size w w2 → K (a.put o.dst (.slice a2 n c2)) w2) : wpOp Yba.prog ops Q i K a w := by
  refine wpOp_step ho fun K' hK => ?_
  rw [if_pos (by simp [Region.wanted, hg])]
  unfold Oper.wp
  rw [exec_call43 hop rfl hx]
  refine (clone_any S n w hn hS).mono ?_
  rintro e w1 ⟨a2, c2, rfl, h1, h2⟩
  exact hK _ _ (h a2 c2 w1 h1 h2)

def opAt (s : Nat) (ops : Array Oper) (i : Nat) (op : Op) : Prop := ∃ o, ops[i]? = some o ∧ o.op = op ∧ o.guard = none ∧ o.dst = some s
def opG (s : Nat) (ops : Array Oper) (i : Nat) : Prop := ∃ o, ops[i]? = some o ∧ o.guard = some (10, true) ∧ o.dst = some s
def valsU (c S n : Nat) : Nat → Value
  | 0 => .pointer (some ⟨c, 0, none⟩)
  | 1 => .pointer (some ⟨c, 0, none⟩)
  | 2 => .pointer (some ⟨c, 271, none⟩)
  | 3 => .slice (some ⟨S, 0, none⟩) n n
  | 5 => .pointer (some ⟨c, 0, none⟩)
  | 6 => .pointer (some ⟨c, 0, none⟩)
  | 7 => .pointer (some ⟨c, 272, none⟩)
  | 8 => .bool true
  | 9 => .bool false
  | 10 => .bool false
  | 17 => .bool false
  | _ => undef
def edgesU : List (Nat × Nat) := [(1, 0), (2, 1), (3, 2), (4, 3), (6, 5), (7, 6), (8, 7), (9, 8), (10, 9), (11, 10), (12, 10), (13, 10), (14, 10), (15, 10), (16, 10), (17, 10), (18, 4), (19, 17)]
def GoodU (X : World) (n : Nat) (v : Value) (w : World) : Prop := ∃ a2 c2, v = .slice a2 n c2 ∧ w.ownsRow X.heap.size 118 3 v n (tcells n) ∧ Below X.heap.size X w
def JU (X : World) (A : Act) (c S n : Nat) (listed : Array Bool) (f : Nat → Value) (w : World) : Prop :=
  (∀ i, i < 18 → i ≠ 4 → listed.getD i false = true → f (9 + i) = valsU c S n i) ∧ (listed.getD 4 false = false → w = X.drew) ∧ (listed.getD 4 false = true → GoodU X n (f 13) w) ∧
  (listed.getD 18 false = true → f 0 = f 13) ∧ (listed.getD 19 false = true → f 1 = .bool false) ∧ ∀ j, 2 ≤ j → j < 9 → f j = A.eval (.tmp (2 + j))

set_option maxHeartbeats 1000000 in
theorem un_region {ops : Array Oper} {Q : Exit → Act → World → Prop} {X : World} {c S n : Nat} {id : Nat} (A : Act) (hA : 29 ≤ A.tmps.size) (h0 : A.eval (.tmp 0) = .pointer (some ⟨c, 0, none⟩))
    (hsz : ops.size = 20) (hlow : lowEdges .any ops = true) (hw : ∀ p ∈ edgesU, waits? .any ops p.1 p.2 = true) (hm : Yba.prog.follows .mixedOrders = true) (hd10 : (ops[10]?).bind (·.dst) = some 21)
    (o0 : opAt 11 ops 0 (.move (.tmp 0))) (o1 : opAt 12 ops 1 (.nilCheck (.tmp 11))) (o2 : opAt 13 ops 2 (.fieldAddr 114 (.tmp 12) 9)) (o3 : opAt 14 ops 3 (.load 78 (.tmp 13))) (o4 : opAt 15 ops 4 (.call { callee := .value (.func 43), args := #[.tmp 14], argTypes := #[78] }))
    (o5 : opAt 16 ops 5 (.move (.tmp 0))) (o6 : opAt 17 ops 6 (.nilCheck (.tmp 16))) (o7 : opAt 18 ops 7 (.fieldAddr 114 (.tmp 17) 10)) (o8 : opAt 19 ops 8 (.load 4 (.tmp 18))) (o9 : opAt 20 ops 9 (.unOp .not 4 (.tmp 19))) (o10 : opAt 21 ops 10 (.move (.tmp 20)))
    (o11 : opG 22 ops 11) (o12 : opG 23 ops 12) (o13 : opG 24 ops 13) (o14 : opG 25 ops 14) (o15 : opG 26 ops 15) (o16 : opG 27 ops 16) (o17 : opAt 28 ops 17 (.pick (.tmp 21) (.tmp 27) (.const (.bool false)))) (o18 : opAt 2 ops 18 (.assign (.tmp 15))) (o19 : opAt 3 ops 19 (.assign (.tmp 28)))
    (k1 : X.cell? ⟨c, 271, none⟩ = some (.slice (some ⟨S, 0, none⟩) n n)) (k2 : X.cell? ⟨c, 272, none⟩ = some (.bool true)) (hn : n ≤ 5) (hS : X.heap[S]? = some (.cells (tcells n).toArray 118 (0, 0)))
    (hQ : ∀ (f : Nat → Value) (w2 : World) (a2 : Option Addr) (c2 : Nat), w2.ownsRow X.heap.size 118 3 (.slice a2 n c2) n (tcells n) → Below X.heap.size X w2 → f 0 = .slice a2 n c2 → f 1 = .bool false → (∀ j, 2 ≤ j → j < 9 → f j = A.eval (.tmp (2 + j))) → Q .normal (putsR A 2 f 27) w2) : (Code.region id ops true).wp Yba.prog Q A X := by
  have hcl' := World.block_lt_of_cell? _ _ k1
  refine wp_region_held (S := fun _ => True) hm ?_
  have hev := fun f i hi => FR_eval A 2 27 hA f i hi
  have hot := FR_other A 2 27
  have key := wpAnyH_inv (P := Yba.prog) (Q := Q) (fun listed a w => ∃ f, a = FR A 2 27 f ∧ JU X A c S n listed f w) hlow ?step ?done ops.size (Array.replicate ops.size false) A X.drew (by simp) (by simp) ?closed ⟨fun i => A.eval (.tmp (2 + i)), (FR_self A 2 27).symm, ?init⟩
  · exact key
  case closed =>
    intro i j hi _
    simp only [Array.getD_eq_getD_getElem?, Array.getElem?_replicate] at hi
    split at hi <;> cases hi
  case init =>
    have hn : ∀ i, (Array.replicate ops.size false).getD i false = false := by
      intro i
      simp only [Array.getD_eq_getD_getElem?, Array.getElem?_replicate]
      split <;> rfl
    refine ⟨fun i _ _ h => ?_, fun _ => rfl, fun h => ?_, fun h => ?_, fun h => ?_, fun _ _ _ => rfl⟩ <;> rw [hn] at h <;> cases h
  case done =>
    rintro listed a w ⟨f, rfl, _, _, h4, h18, h19, hr⟩ hall
    obtain ⟨a2, c2, e, ho, hb⟩ := h4 (hall 4 (by omega))
    rw [FR_puts]
    rw [e] at ho
    exact hQ f w a2 c2 ho hb ((h18 (hall 18 (by omega))).trans e) (h19 (hall 19 (by omega))) hr
  case step =>
    rintro listed a w hs hcl ⟨f, rfl, hv, hw1, hw4, hv18, hv19, hr⟩ i hi hu hd
    have hd' : ∀ j, (i, j) ∈ edgesU → listed.getD j false = true := fun j hj => hd j (hw (i, j) hj)
    have his : i < listed.size := by omega
    have cell : ∀ (q : Nat) (v : Value), X.cell? ⟨c, q, none⟩ = some v → w.cell? ⟨c, q, none⟩ = some v := by
      intro q v hq
      cases hb : listed.getD 4 false with
      | false => rw [hw1 hb]; exact hq
      | true =>
        obtain ⟨_, _, _, _, h⟩ := hw4 hb
        exact (h.cell (p := ⟨c, q, none⟩) hcl').trans hq
    have put_ : ∀ (v : Value), i < 18 → i ≠ 4 → v = valsU c S n i → JU X A c S n (listed.setIfInBounds i true) (upd f (9 + i) v) w := by
      intro v h1 h2 hvv
      have e13 : upd f (9 + i) v 13 = f 13 := if_neg (by omega)
      have e0 : upd f (9 + i) v 0 = f 0 := if_neg (by omega)
      have e1 : upd f (9 + i) v 1 = f 1 := if_neg (by omega)
      refine ⟨fun j hj hj4 hl => ?_, fun h => ?_, fun h => ?_, fun h => ?_, fun h => ?_, fun j h3 h4 => ?_⟩
      · rw [set_getD _ _ _ his] at hl
        show (if 9 + j = 9 + i then _ else f (9 + j)) = _
        by_cases hij : i = j
        · subst hij; rw [if_pos rfl]; exact hvv
        · rw [if_neg hij] at hl
          rw [if_neg (by omega)]
          exact hv j hj hj4 hl
      · rw [set_getD _ _ _ his, if_neg h2] at h; exact hw1 h
      · rw [set_getD _ _ _ his, if_neg h2] at h; rw [e13]; exact hw4 h
      · rw [set_getD _ _ _ his, if_neg (by omega)] at h; rw [e0, e13]; exact hv18 h
      · rw [set_getD _ _ _ his, if_neg (by omega)] at h; rw [e1]; exact hv19 h
      · show (if j = 9 + i then _ else f j) = _
        rw [if_neg (by omega)]; exact hr j h3 h4
    have pure_ : ∀ (o : Oper), ops[i]? = some o → o.guard = none → o.dst = some (11 + i) → i < 18 → i ≠ 4 → (execOp (FR A 2 27 f).eval o).run Yba.prog w = .ok (.value (valsU c S n i)) w → wpOp Yba.prog ops Q i (fun a' w' => ∃ f, a' = FR A 2 27 f ∧ JU X A c S n (listed.setIfInBounds i true) f w') (FR A 2 27 f) w := by
      intro o ho hg hds h1 h2 hr'
      refine wpOp_val ho hg hr' ⟨upd f (9 + i) (valsU c S n i), ?_, put_ _ h1 h2 rfl⟩
      rw [hds, show 11 + i = 2 + (9 + i) by omega]
      exact FR_put A 2 27 f (9 + i) _ (by omega)
    have val : ∀ j, j < 18 → j ≠ 4 → (i, j) ∈ edgesU → (FR A 2 27 f).eval (.tmp (11 + j)) = valsU c S n j := fun j hj hj4 he => by
      rw [show 11 + j = 2 + (9 + j) by omega]
      exact (hev f (9 + j) (by omega)).trans (hv j hj hj4 (hd' j he))
    have skip_ : opG (11 + i) ops i → 11 ≤ i → i ≤ 16 → (i, 10) ∈ edgesU → wpOp Yba.prog ops Q i (fun a' w' => ∃ f, a' = FR A 2 27 f ∧ JU X A c S n (listed.setIfInBounds i true) f w') (FR A 2 27 f) w := by
      rintro ⟨o, ho, hg, hds⟩ h1 h2 he
      have hv10 := val 10 (by omega) (by omega) he
      have hyl : Region.wanted o (yielded ops (FR A 2 27 f).tmps) = false := by
        have hs21 : 21 < (FR A 2 27 f).tmps.size := by rw [FR_size]; omega
        have e21 : (FR A 2 27 f).tmps[21]? = some (.bool false) := by
          have h := hv10
          rw [eval_tmp, Array.getElem?_eq_getElem (by exact hs21)] at h
          rw [Array.getElem?_eq_getElem hs21]
          exact congrArg some h
        simp only [Region.wanted, hg, yielded, hd10, Option.bind_some, e21]
        rfl
      refine wpOp_skip ho hyl ⟨upd f (9 + i) undef, ?_, put_ _ (by omega) (by omega) ?_⟩
      · rw [hds, show 11 + i = 2 + (9 + i) by omega]
        exact FR_put A 2 27 f (9 + i) _ (by omega)
      · have : i = 11 ∨ i = 12 ∨ i = 13 ∨ i = 14 ∨ i = 15 ∨ i = 16 := by omega
        rcases this with rfl | rfl | rfl | rfl | rfl | rfl <;> rfl
    match i, hi, pure_, val, skip_, hd' with
    | 0, _, pure_, val, _, _ =>
      obtain ⟨o, ho, hop, hg, hds⟩ := o0
      exact pure_ o ho hg hds (by omega) (by omega) ((exec_move hop).trans (by rw [hot f 0 (by omega), h0]; rfl))
    | 1, _, pure_, val, _, _ =>
      obtain ⟨o, ho, hop, hg, hds⟩ := o1
      exact pure_ o ho hg hds (by omega) (by omega) (exec_nil hop (val 0 (by omega) (by omega) (by decide)))
    | 2, _, pure_, val, _, _ =>
      obtain ⟨o, ho, hop, hg, hds⟩ := o2
      exact pure_ o ho hg hds (by omega) (by omega) (exec_field (field114_9 w c) hop (val 1 (by omega) (by omega) (by decide)))
    | 3, _, pure_, val, _, _ =>
      obtain ⟨o, ho, hop, hg, hds⟩ := o3
      exact pure_ o ho hg hds (by omega) (by omega) (exec_load1 (load_cell agg78 w ⟨c, 271, none⟩ _ (cell 271 _ k1)) hop (val 2 (by omega) (by omega) (by decide)))
    | 4, _, _, val, _, hd' =>
      obtain ⟨o, ho, hop, hg, hds⟩ := o4
      have ew := hw1 hu
      subst ew
      refine wpOp_clone ho hg hop (val 3 (by omega) (by omega) (by decide)) hn hS (fun a2 c2 w2 ho2 hb2 => ⟨upd f 13 (.slice a2 n c2), ?_, ?_, ?_, ?_, ?_, ?_, ?_⟩)
      · rw [hds]; exact FR_put A 2 27 f 13 _ (by omega)
      · intro j hj hj4 hl
        rw [set_getD _ _ _ his, if_neg (by omega)] at hl
        show (if 9 + j = 13 then _ else f (9 + j)) = _
        rw [if_neg (by omega)]
        exact hv j hj hj4 hl
      · intro h
        rw [set_getD _ _ _ his, if_pos rfl] at h; cases h
      · intro _
        exact ⟨a2, c2, rfl, ho2, ⟨hb2.os, hb2.tape, hb2.output, hb2.size, hb2.block⟩⟩
      · intro h
        rw [set_getD _ _ _ his, if_neg (by omega)] at h
        rw [hcl 18 4 h (hw (18, 4) (by decide))] at hu; cases hu
      · intro h
        rw [set_getD _ _ _ his, if_neg (by omega)] at h
        exact hv19 h
      · intro j h3 h4
        show (if j = 13 then _ else f j) = _
        rw [if_neg (by omega)]; exact hr j h3 h4
    | 5, _, pure_, val, _, _ =>
      obtain ⟨o, ho, hop, hg, hds⟩ := o5
      exact pure_ o ho hg hds (by omega) (by omega) ((exec_move hop).trans (by rw [hot f 0 (by omega), h0]; rfl))
    | 6, _, pure_, val, _, _ =>
      obtain ⟨o, ho, hop, hg, hds⟩ := o6
      exact pure_ o ho hg hds (by omega) (by omega) (exec_nil hop (val 5 (by omega) (by omega) (by decide)))
    | 7, _, pure_, val, _, _ =>
      obtain ⟨o, ho, hop, hg, hds⟩ := o7
      exact pure_ o ho hg hds (by omega) (by omega) (exec_field (field114_10 w c) hop (val 6 (by omega) (by omega) (by decide)))
    | 8, _, pure_, val, _, _ =>
      obtain ⟨o, ho, hop, hg, hds⟩ := o8
      exact pure_ o ho hg hds (by omega) (by omega) (exec_load1 (load_cell agg4 w ⟨c, 272, none⟩ _ (cell 272 _ k2)) hop (val 7 (by omega) (by omega) (by decide)))
    | 9, _, pure_, val, _, _ =>
      obtain ⟨o, ho, hop, hg, hds⟩ := o9
      exact pure_ o ho hg hds (by omega) (by omega) (exec_not hop (val 8 (by omega) (by omega) (by decide)))
    | 10, _, pure_, val, _, _ =>
      obtain ⟨o, ho, hop, hg, hds⟩ := o10
      exact pure_ o ho hg hds (by omega) (by omega) ((exec_move hop).trans (by rw [show (Operand.tmp 20) = Operand.tmp (11 + 9) from rfl, val 9 (by omega) (by omega) (by decide)]; rfl))
    | 11, _, _, _, skip_, _ => exact skip_ o11 (by omega) (by omega) (by decide)
    | 12, _, _, _, skip_, _ => exact skip_ o12 (by omega) (by omega) (by decide)
    | 13, _, _, _, skip_, _ => exact skip_ o13 (by omega) (by omega) (by decide)
    | 14, _, _, _, skip_, _ => exact skip_ o14 (by omega) (by omega) (by decide)
    | 15, _, _, _, skip_, _ => exact skip_ o15 (by omega) (by omega) (by decide)
    | 16, _, _, _, skip_, _ => exact skip_ o16 (by omega) (by omega) (by decide)
    | 17, _, pure_, val, _, _ =>
      obtain ⟨o, ho, hop, hg, hds⟩ := o17
      exact pure_ o ho hg hds (by omega) (by omega) (exec_pick hop (val 10 (by omega) (by omega) (by decide)))
    | 18, _, _, _, _, hd' =>
      obtain ⟨o, ho, hop, hg, hds⟩ := o18
      have e15 : (FR A 2 27 f).eval (.tmp 15) = f 13 := hev f 13 (by omega)
      refine wpOp_val ho hg ((exec_assign hop).trans (by rw [e15])) ⟨upd f 0 (f 13), by rw [hds]; exact FR_put A 2 27 f 0 _ (by omega), ?_, ?_, ?_, ?_, ?_, ?_⟩
      · intro j hj hj4 hl
        rw [set_getD _ _ _ his, if_neg (by omega)] at hl
        show (if 9 + j = 0 then _ else f (9 + j)) = _
        rw [if_neg (by omega)]
        exact hv j hj hj4 hl
      · intro h
        rw [set_getD _ _ _ his, if_neg (by omega)] at h; exact hw1 h
      · intro h
        rw [set_getD _ _ _ his, if_neg (by omega)] at h; exact hw4 h
      · intro _; rfl
      · intro h
        rw [set_getD _ _ _ his, if_neg (by omega)] at h; exact hv19 h
      · intro j h3 h4
        show (if j = 0 then _ else f j) = _
        rw [if_neg (by omega)]; exact hr j h3 h4
    | 19, _, _, val, _, hd' =>
      obtain ⟨o, ho, hop, hg, hds⟩ := o19
      have e28 : (FR A 2 27 f).eval (.tmp 28) = .bool false := val 17 (by omega) (by omega) (by decide)
      refine wpOp_val ho hg ((exec_assign hop).trans (by rw [e28])) ⟨upd f 1 (.bool false), by rw [hds]; exact FR_put A 2 27 f 1 _ (by omega), ?_, ?_, ?_, ?_, ?_, ?_⟩
      · intro j hj hj4 hl
        rw [set_getD _ _ _ his, if_neg (by omega)] at hl
        show (if 9 + j = 1 then _ else f (9 + j)) = _
        rw [if_neg (by omega)]
        exact hv j hj hj4 hl
      · intro h
        rw [set_getD _ _ _ his, if_neg (by omega)] at h; exact hw1 h
      · intro h
        rw [set_getD _ _ _ his, if_neg (by omega)] at h; exact hw4 h
      · intro h
        rw [set_getD _ _ _ his, if_neg (by omega)] at h; exact hv18 h
      · intro _; rfl
      · intro j h3 h4
        show (if j = 1 then _ else f j) = _
        rw [if_neg (by omega)]; exact hr j h3 h4
    | n + 20, h, _, _, _, _ => omega

end Go.Proofs.Ybulkcrtu
