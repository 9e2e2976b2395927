import Derived.Test.YbulkcrtuH
namespace Go.Proofs.Ybulkcrtu
open Go.RowKit Go.ChangeMaps Go.MapKept Go.MuLone

theorem makeChan71 (w : World) : (Instr.makeChan 71 (.int .i64 1024)).run Yba.prog w = .ok (.chan (some w.heap.size)) (w.alloc (.chan 1024 #[] false 0 0 false)) := by kernel_rfl
theorem makeMap72 (w : World) : (Instr.makeMap 72 none).run Yba.prog w = .ok (.map (some w.heap.size)) (w.alloc (.map #[] 0)) := rfl
theorem build96 (ch M Ma b : Nat) (w : World) : (Instr.build 96 #[(8, .chan (some ch)), (10, .map (some M)), (11, .agg #[.int .i64 1024, .map (some Ma), .pointer (some ⟨b, 0, none⟩)])]).run Yba.prog w = .ok (.agg (trC 0 ch M Ma b)) w := by kernel_rfl
theorem exec_makeChan {P : Program} {ρ : Operand → Value} {o : Oper} {x : Operand} {t : TypeId} {w w' : World} {vx v : Value} (ho : o.op = .makeChan t x) (hx : ρ x = vx) (hr : (Instr.makeChan t vx).run P w = .ok v w') : (execOp ρ o).run P w = .ok (.value v) w' := by
  unfold execOp
  simp only [ho, hx, hr, Sem.run_bind, Sem.run_pure, Result.andThen_ok]
theorem exec_makeMap {P : Program} {ρ : Operand → Value} {o : Oper} {t : TypeId} {w w' : World} {v : Value} (ho : o.op = .makeMap t none) (hr : (Instr.makeMap t none).run P w = .ok v w') : (execOp ρ o).run P w = .ok (.value v) w' := by
  unfold execOp
  simp [ho, hr]
theorem exec_box {ρ : Operand → Value} {o : Oper} {x : Operand} {t : TypeId} {w : World} {cs : Array Value} (ho : o.op = .box t x) (hx : ρ x = .agg cs) : (execOp ρ o).run Yba.prog w = .ok (.value (.pointer (some ⟨w.heap.size, 0, none⟩))) (w.alloc (.cells cs t)) := by
  unfold execOp
  simp only [ho, hx]
  simp [go_sem]

theorem wpList_val {P : Program} {ops : Array Oper} {rest : List Oper} {o : Oper} {a : Act} {w w' : World} {Q : Exit → Act → World → Prop} {v : Value} (hg : o.guard = none) (hr : (execOp a.eval o).run P w = .ok (.value v) w') (h : wpList P ops Q rest (a.put o.dst v) w') : wpList P ops Q (o :: rest) a w := by
  refine wpList_plain hg fun K hK => ?_
  unfold Oper.wp
  rw [hr]
  exact hK _ _ h
theorem enter12 (w : World) : (callFunc 12 (#[.int .i64 1024] ++ #[])).run Yba.prog w = .ok (.enter 12 #[.int .i64 1024]) w := by kernel_rfl
theorem wpOp_new {ops : Array Oper} {Q : Exit → Act → World → Prop} {i : Nat} {o : Oper} {K : Act → World → Prop} {a : Act} {w : World} (ho : ops[i]? = some o) (hg : o.guard = none) (hop : o.op = .call { callee := .value (.func 12), args := #[.const (.int .i64 1024)], argTypes := #[3] })
    (h : ∀ w2, Below w.heap.size w w2 → MapU w2 (w.heap.size + 1) 0 0 (fun _ => none) → w2.heap[w.heap.size + 2]? = some (.cells (emptyL (w.heap.size + 2)) 151 (0, 0)) → K (a.put o.dst (.agg #[.int .i64 1024, .map (some (w.heap.size + 1)), .pointer (some ⟨w.heap.size + 2, 0, none⟩)])) w2) : wpOp Yba.prog ops Q i K a w := by
  refine wpOp_step ho fun K' hK => ?_
  rw [if_pos (by simp [Region.wanted, hg])]
  unfold Oper.wp
  have hr : (execOp a.eval o).run Yba.prog w = .ok (.enter 12 #[.int .i64 1024]) w := by
    unfold execOp
    simp only [hop, resolve, List.map_toArray, List.map_cons, List.map_nil]
    exact enter12 w
  rw [hr]
  refine (map_new w).mono ?_
  rintro e w1 ⟨rfl, hw1⟩
  refine hK _ _ (h w1 (by rw [hw1]; exact below_al0 (below_al0 (below_al0 (Below.refl _ _)))) ?_ ?_)
  · rw [hw1]
    have h0 := MapU_made (w.alloc (.cells #[.int .i64 1024, .map (some (w.heap.size + 1)), .pointer (some ⟨w.heap.size + 2, 0, none⟩)] 76))
    have e1 : (w.alloc (.cells #[.int .i64 1024, .map (some (w.heap.size + 1)), .pointer (some ⟨w.heap.size + 2, 0, none⟩)] 76)).heap.size = w.heap.size + 1 := by simp
    rw [e1] at h0
    exact h0.of_block (heap_past _ _ _ (by simp))
  · rw [hw1]
    exact heap_at _ _ _ (by simp)

def edges3 : List (Nat × Nat) := [(3, 0), (3, 1), (3, 2), (4, 3), (5, 4)]
def J3 (W : World) (A : Act) (listed : Array Bool) (a : Act) (w : World) : Prop :=
  ∃ (f : Nat → Value) (ch M Ma b T : Nat), (listed.getD 5 false = false → a = FR A 38 5 f) ∧ (listed.getD 5 false = true → a = (FR A 38 5 f).put (some 15) (f 4)) ∧ Below W.heap.size W w ∧
  (listed.getD 0 false = true → f 0 = .chan (some ch) ∧ w.heap[ch]? = some (.chan 1024 #[] false 0 0 false) ∧ W.heap.size ≤ ch) ∧ (listed.getD 1 false = true → f 1 = .map (some M) ∧ MapU w M 0 0 (fun _ => none) ∧ W.heap.size ≤ M) ∧
  (listed.getD 2 false = true → f 2 = .agg #[.int .i64 1024, .map (some Ma), .pointer (some ⟨b, 0, none⟩)] ∧ MapU w Ma 0 0 (fun _ => none) ∧ w.heap[b]? = some (.cells (emptyL b) 151 (0, 0)) ∧ W.heap.size ≤ Ma ∧ W.heap.size ≤ b) ∧ (listed.getD 1 false = true → listed.getD 2 false = true → M ≠ Ma) ∧
  (listed.getD 3 false = true → f 3 = .agg (trC 0 ch M Ma b)) ∧ (listed.getD 4 false = true → f 4 = .pointer (some ⟨T, 0, none⟩) ∧ w.heap[T]? = some (.cells (trC 0 ch M Ma b) 96 (0, 0)) ∧ W.heap.size ≤ T)
def opAt' (s : Nat) (ops : Array Oper) (i : Nat) (op : Op) : Prop := ∃ o, ops[i]? = some o ∧ o.op = op ∧ o.guard = none ∧ o.dst = some s

set_option maxHeartbeats 1000000 in
theorem new_region {ops : Array Oper} {Q : Exit → Act → World → Prop} {W : World} {id : Nat} (A : Act) (hA : 43 ≤ A.tmps.size)
    (hsz : ops.size = 6) (hlow : lowEdges .any ops = true) (hw : ∀ p ∈ edges3, waits? .any ops p.1 p.2 = true) (hm : Yba.prog.follows .mixedOrders = true)
    (o0 : opAt' 38 ops 0 (.makeChan 71 (.const (.int .i64 1024)))) (o1 : opAt' 39 ops 1 (.makeMap 72 none)) (o2 : opAt' 40 ops 2 (.call { callee := .value (.func 12), args := #[.const (.int .i64 1024)], argTypes := #[3] })) (o3 : opAt' 41 ops 3 (.build 96 #[(8, .tmp 38), (10, .tmp 39), (11, .tmp 40)])) (o4 : opAt' 42 ops 4 (.box 96 (.tmp 41))) (o5 : opAt' 15 ops 5 (.assign (.tmp 42)))
    (hQ : ∀ (f : Nat → Value) (w : World) (T ch M Ma b : Nat), Below W.heap.size W w → W.heap.size ≤ T → W.heap.size ≤ ch → W.heap.size ≤ M → W.heap.size ≤ Ma → W.heap.size ≤ b → M ≠ Ma → w.heap[T]? = some (.cells (trC 0 ch M Ma b) 96 (0, 0)) → w.heap[ch]? = some (.chan 1024 #[] false 0 0 false) → MapU w M 0 0 (fun _ => none) → MapU w Ma 0 0 (fun _ => none) → w.heap[b]? = some (.cells (emptyL b) 151 (0, 0)) →
      Q .normal ((putsR A 38 f 5).put (some 15) (.pointer (some ⟨T, 0, none⟩))) w) : (Code.region id ops true).wp Yba.prog Q A W := by
  refine wp_region_held (S := fun _ => True) hm ?_
  have hev := fun f i hi => FR_eval A 38 5 hA f i hi
  have hn0 : ∀ i, (Array.replicate ops.size false).getD i false = false := by
    intro i
    simp only [Array.getD_eq_getD_getElem?, Array.getElem?_replicate]
    split <;> rfl
  have key := wpAnyH_inv (P := Yba.prog) (Q := Q) (J3 W A) hlow ?step ?done ops.size (Array.replicate ops.size false) A W.drew (by simp) (by simp) ?closed ?init
  · exact key
  case closed =>
    intro i j hi _
    rw [hn0] at hi; cases hi
  case init =>
    refine ⟨fun i => A.eval (.tmp (38 + i)), 0, 0, 0, 0, 0, fun _ => (FR_self A 38 5).symm, ?_, (Below.refl _ _).drew, ?_, ?_, ?_, ?_, ?_, ?_⟩ <;> (intro h; rw [hn0] at h; cases h)
  case done =>
    rintro listed a w ⟨f, ch, M, Ma, b, T, _, h5, hB, g0, g1, g2, g12, _, g4⟩ hall
    have l := fun i hi => hall i hi
    rw [h5 (l 5 (by omega)), FR_puts]
    obtain ⟨e4, hT, hT0⟩ := g4 (l 4 (by omega))
    obtain ⟨_, hc, hc0⟩ := g0 (l 0 (by omega))
    obtain ⟨_, hM, hM0⟩ := g1 (l 1 (by omega))
    obtain ⟨_, hMa, hb, hMa0, hb0⟩ := g2 (l 2 (by omega))
    rw [e4]
    exact hQ f w T ch M Ma b hB hT0 hc0 hM0 hMa0 hb0 (g12 (l 1 (by omega)) (l 2 (by omega))) hT hc hM hMa hb
  case step =>
    rintro listed a w hs hcl ⟨f, ch, M, Ma, b, T, hA5, _, hB, g0, g1, g2, g12, g3, g4⟩ i hi hu hd
    have hd' : ∀ j, (i, j) ∈ edges3 → listed.getD j false = true := fun j hj => hd j (hw (i, j) hj)
    have his : i < listed.size := by omega
    have n5 : listed.getD 5 false = false := by
      cases hb5 : listed.getD 5 false with
      | false => rfl
      | true =>
        exfalso
        have t4 := hcl 5 4 hb5 (hw (5, 4) (by decide))
        have t3 := hcl 4 3 t4 (hw (4, 3) (by decide))
        have : listed.getD i false = true := by
          have hi6 : i < 6 := by omega
          match i, hi6 with
          | 0, _ => exact hcl 3 0 t3 (hw (3, 0) (by decide))
          | 1, _ => exact hcl 3 1 t3 (hw (3, 1) (by decide))
          | 2, _ => exact hcl 3 2 t3 (hw (3, 2) (by decide))
          | 3, _ => exact t3
          | 4, _ => exact t4
          | 5, _ => exact hb5
        rw [this] at hu; cases hu
    have ha := hA5 n5
    subst ha
    have up3 : i < 3 → listed.getD 3 false = false ∧ listed.getD 4 false = false := by
      intro h
      have h3 : listed.getD 3 false = false := by
        cases hb3 : listed.getD 3 false with
        | false => rfl
        | true =>
          exfalso
          have : listed.getD i false = true := by
            match i, h with
            | 0, _ => exact hcl 3 0 hb3 (hw (3, 0) (by decide))
            | 1, _ => exact hcl 3 1 hb3 (hw (3, 1) (by decide))
            | 2, _ => exact hcl 3 2 hb3 (hw (3, 2) (by decide))
          rw [this] at hu; cases hu
      refine ⟨h3, ?_⟩
      cases hb4 : listed.getD 4 false with
      | false => rfl
      | true => rw [hcl 4 3 hb4 (hw (4, 3) (by decide))] at h3; cases h3
    have k0 : ∀ w', Below w.heap.size w w' → listed.getD 0 false = true → f 0 = .chan (some ch) ∧ w'.heap[ch]? = some (.chan 1024 #[] false 0 0 false) ∧ W.heap.size ≤ ch := fun w' hb h => by
      obtain ⟨a1, a2, a3⟩ := g0 h
      exact ⟨a1, (hb.block ch (Array.getElem?_eq_some_iff.1 a2).1).trans a2, a3⟩
    have k1 : ∀ w', Below w.heap.size w w' → listed.getD 1 false = true → f 1 = .map (some M) ∧ MapU w' M 0 0 (fun _ => none) ∧ W.heap.size ≤ M := fun w' hb h => by
      obtain ⟨a1, a2, a3⟩ := g1 h
      exact ⟨a1, a2.of_block (hb.block M a2.lt), a3⟩
    have k2 : ∀ w', Below w.heap.size w w' → listed.getD 2 false = true → f 2 = .agg #[.int .i64 1024, .map (some Ma), .pointer (some ⟨b, 0, none⟩)] ∧ MapU w' Ma 0 0 (fun _ => none) ∧ w'.heap[b]? = some (.cells (emptyL b) 151 (0, 0)) ∧ W.heap.size ≤ Ma ∧ W.heap.size ≤ b := fun w' hb h => by
      obtain ⟨a1, a2, a3, a4, a5⟩ := g2 h
      exact ⟨a1, a2.of_block (hb.block Ma a2.lt), (hb.block b (Array.getElem?_eq_some_iff.1 a3).1).trans a3, a4, a5⟩
    have hsB := hB.size
    match i, hi, hd', up3 with
    | 0, _, _, up3 =>
      obtain ⟨o, ho, hop, hg, hds⟩ := o0
      have hb' : Below w.heap.size w (w.alloc (.chan 1024 #[] false 0 0 false)) := below_alloc _ _
      obtain ⟨u3, u4⟩ := up3 (by omega)
      refine wpOp_val ho hg (exec_makeChan hop rfl (makeChan71 w)) ⟨upd f 0 (.chan (some w.heap.size)), w.heap.size, M, Ma, b, T, fun _ => by rw [hds]; exact FR_put A 38 5 f 0 _ (by omega), ?_, hB.trans (hb'.mono hsB), ?_, ?_, ?_, ?_, ?_, ?_⟩
      · intro h; rw [set_getD _ _ _ his, if_neg (by omega), n5] at h; cases h
      · intro _; exact ⟨rfl, heap1a _ _, hsB⟩
      · intro h; rw [set_getD _ _ _ his, if_neg (by omega)] at h; exact k1 _ hb' h
      · intro h; rw [set_getD _ _ _ his, if_neg (by omega)] at h; exact k2 _ hb' h
      · intro h h'; rw [set_getD _ _ _ his, if_neg (by omega)] at h h'; exact g12 h h'
      · intro h; rw [set_getD _ _ _ his, if_neg (by omega), u3] at h; cases h
      · intro h; rw [set_getD _ _ _ his, if_neg (by omega), u4] at h; cases h
    | 1, _, _, up3 =>
      obtain ⟨o, ho, hop, hg, hds⟩ := o1
      have hb' : Below w.heap.size w (w.alloc (.map #[] 0)) := below_alloc _ _
      obtain ⟨u3, u4⟩ := up3 (by omega)
      refine wpOp_val ho hg (exec_makeMap hop (makeMap72 w)) ⟨upd f 1 (.map (some w.heap.size)), ch, w.heap.size, Ma, b, T, fun _ => by rw [hds]; exact FR_put A 38 5 f 1 _ (by omega), ?_, hB.trans (hb'.mono hsB), ?_, ?_, ?_, ?_, ?_, ?_⟩
      · intro h; rw [set_getD _ _ _ his, if_neg (by omega), n5] at h; cases h
      · intro h; rw [set_getD _ _ _ his, if_neg (by omega)] at h; exact k0 _ hb' h
      · intro _; exact ⟨rfl, MapU_made w, hsB⟩
      · intro h; rw [set_getD _ _ _ his, if_neg (by omega)] at h; exact k2 _ hb' h
      · intro _ h'; rw [set_getD _ _ _ his, if_neg (by omega)] at h'; have := (g2 h').2.1.lt; omega
      · intro h; rw [set_getD _ _ _ his, if_neg (by omega), u3] at h; cases h
      · intro h; rw [set_getD _ _ _ his, if_neg (by omega), u4] at h; cases h
    | 2, _, _, up3 =>
      obtain ⟨o, ho, hop, hg, hds⟩ := o2
      obtain ⟨u3, u4⟩ := up3 (by omega)
      refine wpOp_new ho hg hop (fun w2 hb' hMa2 hb2 => ⟨upd f 2 _, ch, M, w.heap.size + 1, w.heap.size + 2, T, fun _ => by rw [hds]; exact FR_put A 38 5 f 2 _ (by omega), ?_, hB.trans (hb'.mono hsB), ?_, ?_, ?_, ?_, ?_, ?_⟩)
      · intro h; rw [set_getD _ _ _ his, if_neg (by omega), n5] at h; cases h
      · intro h; rw [set_getD _ _ _ his, if_neg (by omega)] at h; exact k0 _ hb' h
      · intro h; rw [set_getD _ _ _ his, if_neg (by omega)] at h; exact k1 _ hb' h
      · intro _; exact ⟨rfl, hMa2, hb2, by omega, by omega⟩
      · intro h _; rw [set_getD _ _ _ his, if_neg (by omega)] at h; have := (g1 h).2.1.lt; omega
      · intro h; rw [set_getD _ _ _ his, if_neg (by omega), u3] at h; cases h
      · intro h; rw [set_getD _ _ _ his, if_neg (by omega), u4] at h; cases h
    | 3, _, hd', _ =>
      obtain ⟨o, ho, hop, hg, hds⟩ := o3
      have e0 : (FR A 38 5 f).eval (.tmp 38) = .chan (some ch) := (hev f 0 (by omega)).trans (g0 (hd' 0 (by decide))).1
      have e1 : (FR A 38 5 f).eval (.tmp 39) = .map (some M) := (hev f 1 (by omega)).trans (g1 (hd' 1 (by decide))).1
      have e2 : (FR A 38 5 f).eval (.tmp 40) = .agg #[.int .i64 1024, .map (some Ma), .pointer (some ⟨b, 0, none⟩)] := (hev f 2 (by omega)).trans (g2 (hd' 2 (by decide))).1
      have u4 : listed.getD 4 false = false := by
        cases hb4 : listed.getD 4 false with
        | false => rfl
        | true => rw [hcl 4 3 hb4 (hw (4, 3) (by decide))] at hu; cases hu
      refine wpOp_val ho hg (exec_build hop (by simp only [List.map_toArray, List.map_cons, List.map_nil, e0, e1, e2]) (build96 ch M Ma b w)) ⟨upd f 3 (.agg (trC 0 ch M Ma b)), ch, M, Ma, b, T, fun _ => by rw [hds]; exact FR_put A 38 5 f 3 _ (by omega), ?_, hB, ?_, ?_, ?_, ?_, ?_, ?_⟩
      · intro h; rw [set_getD _ _ _ his, if_neg (by omega), n5] at h; cases h
      · intro h; rw [set_getD _ _ _ his, if_neg (by omega)] at h; exact g0 h
      · intro h; rw [set_getD _ _ _ his, if_neg (by omega)] at h; exact g1 h
      · intro h; rw [set_getD _ _ _ his, if_neg (by omega)] at h; exact g2 h
      · intro h h'; rw [set_getD _ _ _ his, if_neg (by omega)] at h h'; exact g12 h h'
      · intro _; rfl
      · intro h; rw [set_getD _ _ _ his, if_neg (by omega), u4] at h; cases h
    | 4, _, hd', _ =>
      obtain ⟨o, ho, hop, hg, hds⟩ := o4
      have e3 : (FR A 38 5 f).eval (.tmp 41) = .agg (trC 0 ch M Ma b) := (hev f 3 (by omega)).trans (g3 (hd' 3 (by decide)))
      have hb' : Below w.heap.size w (w.alloc (.cells (trC 0 ch M Ma b) 96)) := below_alloc _ _
      refine wpOp_val ho hg (exec_box hop e3) ⟨upd f 4 (.pointer (some ⟨w.heap.size, 0, none⟩)), ch, M, Ma, b, w.heap.size, fun _ => by rw [hds]; exact FR_put A 38 5 f 4 _ (by omega), ?_, hB.trans (hb'.mono hsB), ?_, ?_, ?_, ?_, ?_, ?_⟩
      · intro h; rw [set_getD _ _ _ his, if_neg (by omega), n5] at h; cases h
      · intro h; rw [set_getD _ _ _ his, if_neg (by omega)] at h; exact k0 _ hb' h
      · intro h; rw [set_getD _ _ _ his, if_neg (by omega)] at h; exact k1 _ hb' h
      · intro h; rw [set_getD _ _ _ his, if_neg (by omega)] at h; exact k2 _ hb' h
      · intro h h'; rw [set_getD _ _ _ his, if_neg (by omega)] at h h'; exact g12 h h'
      · intro h; rw [set_getD _ _ _ his, if_neg (by omega)] at h; exact g3 h
      · intro _; exact ⟨rfl, heap1a _ _, hsB⟩
    | 5, _, hd', _ =>
      obtain ⟨o, ho, hop, hg, hds⟩ := o5
      have e4 : (FR A 38 5 f).eval (.tmp 42) = f 4 := hev f 4 (by omega)
      refine wpOp_val ho hg ((exec_assign hop).trans (by rw [e4])) ⟨f, ch, M, Ma, b, T, ?_, fun _ => by rw [hds], hB, ?_, ?_, ?_, ?_, ?_, ?_⟩
      · intro h; rw [set_getD _ _ _ his, if_pos rfl] at h; cases h
      · intro h; rw [set_getD _ _ _ his, if_neg (by omega)] at h; exact g0 h
      · intro h; rw [set_getD _ _ _ his, if_neg (by omega)] at h; exact g1 h
      · intro h; rw [set_getD _ _ _ his, if_neg (by omega)] at h; exact g2 h
      · intro h h'; rw [set_getD _ _ _ his, if_neg (by omega)] at h h'; exact g12 h h'
      · intro h; rw [set_getD _ _ _ his, if_neg (by omega)] at h; exact g3 h
      · intro h; rw [set_getD _ _ _ his, if_neg (by omega)] at h; exact g4 h
    | n + 6, h, _, _ => omega

end Go.Proofs.Ybulkcrtu
