import Derived.Test.YbulkcrycC
namespace Go.Proofs.Ybulkcryc
open Go.RowKit Go.ChangeMaps Go.MapKept

theorem agg39 (w : World) : (isAgg 39).run Yba.prog w = .ok false w := by kernel_rfl
theorem agg40 (w : World) : (isAgg 40).run Yba.prog w = .ok false w := by kernel_rfl
theorem field42_0 (w : World) (b : Nat) : (Instr.fieldAt 42 (.pointer (some ⟨b, 0, none⟩)) 0).run Yba.prog w = .ok (.pointer (some ⟨b, 0, none⟩)) w := by kernel_rfl
theorem field42_1 (w : World) (b : Nat) : (Instr.fieldAt 42 (.pointer (some ⟨b, 0, none⟩)) 1).run Yba.prog w = .ok (.pointer (some ⟨b, 1, none⟩)) w := by kernel_rfl
theorem exec_ref {ρ : Operand → Value} {o : Oper} {x : Operand} {w : World} {b g : Nat} (ho : o.op = .load 33 x) (hx : ρ x = .pointer (some ⟨b, 0, none⟩)) (hb : w.heap[b]? = some (.cells (refC g).toArray 33 (0, 0))) : (execOp ρ o).run Yba.prog w = .ok (.value (refV g)) w :=
  exec_load ho hx (refC g) _ (fun j v hv => by rw [cell_of_row _ _ _ _ _ _ hb]; simpa using hv) Yba.underlying33 rfl info33
theorem wpOp_unit {P : Program} {ops : Array Oper} {Q : Exit → Act → World → Prop} {i : Nat} {o : Oper} {K : Act → World → Prop} {a : Act} {w w' : World} (ho : ops[i]? = some o) (hg : o.guard = none) (hd : o.dst = none) (hr : (execOp a.eval o).run P w = .ok .skip w') (h : K a w') : wpOp P ops Q i K a w := by
  refine wpOp_step ho fun K' hK => ?_
  rw [if_pos (by simp [Region.wanted, hg])]
  unfold Oper.wp
  rw [hr]
  show K' (a.put o.dst undef) w'
  rw [hd]
  exact hK _ _ h
theorem exec_mapUpdate {P : Program} {ρ : Operand → Value} {o : Oper} {t : TypeId} {m x v : Operand} {w w' : World} {vm vx vv : Value} (ho : o.op = .mapUpdate t m x v) (hm : ρ m = vm) (hx : ρ x = vx) (hv : ρ v = vv) (hr : (Instr.mapUpdate t vm vx vv).run P w = .ok () w') : (execOp ρ o).run P w = .ok .skip w' := by
  unfold execOp
  simp only [ho, hm, hx, hv, hr, Sem.run_bind, Sem.run_pure, Result.andThen_ok]
theorem exec_mapEntry {P : Program} {ρ : Operand → Value} {o : Oper} {t : TypeId} {m x : Operand} {w w' : World} {vm vx vv : Value} (ho : o.op = .mapEntry t m x) (hm : ρ m = vm) (hx : ρ x = vx) (hr : (Instr.mapEntry t vm vx).run P w = .ok vv w') : (execOp ρ o).run P w = .ok (.value vv) w' := by
  unfold execOp
  simp only [ho, hm, hx, hr, Sem.run_bind, Sem.run_pure, Result.andThen_ok]
theorem exec_entryStore {P : Program} {ρ : Operand → Value} {o : Oper} {t : TypeId} {m x v : Operand} {w w' : World} {vm vx vv : Value} (ho : o.op = .entryStore t m x v) (hm : ρ m = vm) (hx : ρ x = vx) (hv : ρ v = vv) (hr : (Instr.entryStore t vm vx vv).run P w = .ok () w') : (execOp ρ o).run P w = .ok .skip w' := by
  unfold execOp
  simp only [ho, hm, hx, hv, hr, Sem.run_bind, Sem.run_pure, Result.andThen_ok]
theorem exec_extract0 {P : Program} {ρ : Operand → Value} {o : Oper} {x : Operand} {w : World} {u v : Value} (ho : o.op = .extract x 0) (hx : ρ x = .tuple #[u, v]) : (execOp ρ o).run P w = .ok (.value u) w := by
  unfold execOp
  simp only [ho, hx]
  rfl
theorem exec_extract1 {P : Program} {ρ : Operand → Value} {o : Oper} {x : Operand} {w : World} {u v : Value} (ho : o.op = .extract x 1) (hx : ρ x = .tuple #[u, v]) : (execOp ρ o).run P w = .ok (.value v) w := by
  unfold execOp
  simp only [ho, hx]
  rfl
theorem slice24 (k : Int) (w : World) : (Instr.buildSlice 24 1 #[(0, .int .i64 k)]).run Yba.prog w = .ok (.slice (some ⟨w.heap.size, 0, none⟩) 1 1) (w.alloc (.cells #[.int .i64 k] 3)) := by kernel_rfl

def opAt (s : Nat) (ops : Array Oper) (i : Nat) (op : Op) : Prop := ∃ o, ops[i]? = some o ∧ o.op = op ∧ o.guard = none ∧ o.dst = some s
def opNo (ops : Array Oper) (i : Nat) (op : Op) : Prop := ∃ o, ops[i]? = some o ∧ o.op = op ∧ o.guard = none ∧ o.dst = none

def vals7 (P Bf g k : Nat) : Nat → Value
  | 0 => .pointer (some ⟨P, 0, none⟩)
  | 1 => .pointer (some ⟨P, 0, none⟩)
  | 2 => .pointer (some ⟨P, 0, none⟩)
  | 3 => .map (some Bf)
  | 4 => refV g
  | 5 => .int .i64 (k : Int)
  | _ => undef
def edges7 : List (Nat × Nat) := [(1, 0), (2, 1), (3, 2), (6, 0), (6, 1), (6, 2), (6, 3), (6, 4), (6, 5)]
def J7 (W : World) (P Bf g k n : Nat) (f0 : Nat → Option Value) (listed : Array Bool) (f : Nat → Value) (w : World) : Prop :=
  (∀ i, i < 6 → listed.getD i false = true → f i = vals7 P Bf g k i) ∧ (listed.getD 6 false = false → w = W.drew) ∧
  (listed.getD 6 false = true → MapIs w Bf (n + 1) (put f0 g (.int .i64 (k : Int))) ∧ W.drew.mapTurned w Bf)

set_option maxHeartbeats 1000000 in
theorem first_region {ops : Array Oper} {Q : Exit → Act → World → Prop} {W : World} {P Bf T5 g k n : Nat} {mo : Option Nat} {f0 : Nat → Option Value} {id : Nat} (A : Act) (hA : 37 ≤ A.tmps.size) (h3 : A.eval (.tmp 3) = .pointer (some ⟨P, 0, none⟩)) (h4 : A.eval (.tmp 4) = .int .i64 (k : Int)) (h5 : A.eval (.tmp 5) = .pointer (some ⟨T5, 0, none⟩))
    (hsz : ops.size = 7) (hlow : lowEdges .any ops = true) (hw : ∀ p ∈ edges7, waits? .any ops p.1 p.2 = true) (hm : Yba.prog.follows .mixedOrders = true)
    (o0 : opAt 31 ops 0 (.move (.tmp 3))) (o1 : opAt 32 ops 1 (.nilCheck (.tmp 31))) (o2 : opAt 33 ops 2 (.fieldAddr 42 (.tmp 32) 0)) (o3 : opAt 34 ops 3 (.load 39 (.tmp 33))) (o4 : opAt 35 ops 4 (.load 33 (.tmp 5))) (o5 : opAt 36 ops 5 (.move (.tmp 4))) (o6 : opNo ops 6 (.mapUpdate 39 (.tmp 34) (.tmp 35) (.tmp 36)))
    (hP : W.heap[P]? = some (.cells #[.map (some Bf), .map mo] 42 (0, 0))) (hT : W.heap[T5]? = some (.cells (refC g).toArray 33 (0, 0))) (hF : MapIs W Bf n f0) (hn : n < maxLen) (hg4 : g ≤ 4)
    (hQ : ∀ (f : Nat → Value) (w' : World), MapIs w' Bf (n + 1) (put f0 g (.int .i64 (k : Int))) → W.drew.mapTurned w' Bf → Q .normal (putsR A 31 f 6) w') : (Code.region id ops true).wp Yba.prog Q A W := by
  refine wp_region_held (S := fun _ => True) hm ?_
  have hev := fun f i hi => FR_eval A 31 6 hA f i hi
  have hot := FR_other A 31 6
  have key := wpAnyH_inv (P := Yba.prog) (Q := Q) (fun listed a w => ∃ f, a = FR A 31 6 f ∧ J7 W P Bf g k n f0 listed f w) hlow ?step ?done ops.size (Array.replicate ops.size false) A W.drew (by simp) (by simp) ?closed ⟨fun i => A.eval (.tmp (31 + i)), (FR_self A 31 6).symm, ?init⟩
  · exact key
  case closed =>
    intro i j hi _
    simp only [Array.getD_eq_getD_getElem?, Array.getElem?_replicate] at hi
    split at hi <;> cases hi
  case init =>
    have hn : ∀ i, (Array.replicate ops.size false).getD i false = false := by
      intro i
      simp only [Array.getD_eq_getD_getElem?, Array.getElem?_replicate]
      split <;> rfl
    refine ⟨fun i _ h => ?_, fun _ => rfl, fun h => ?_⟩
    · rw [hn] at h; cases h
    · rw [hn] at h; cases h
  case done =>
    rintro listed a w ⟨f, rfl, _, _, h3⟩ hall
    obtain ⟨h1, h2⟩ := h3 (hall 6 (by omega))
    rw [FR_puts]
    exact hQ f w h1 h2
  case step =>
    rintro listed a w hs hcl ⟨f, rfl, hv, hw1, _⟩ i hi hu hd
    have hd' : ∀ j, (i, j) ∈ edges7 → listed.getD j false = true := fun j hj => hd j (hw (i, j) hj)
    have his : i < listed.size := by omega
    have h6 : listed.getD 6 false = false := by
      cases hb : listed.getD 6 false with
      | false => rfl
      | true =>
        exfalso
        have hi7 : i < 7 := by omega
        have go : ∀ j, (6, j) ∈ edges7 → listed.getD j false = true := fun j hj => hcl 6 j hb (hw (6, j) hj)
        have : listed.getD i false = true := by
          match i, hi7 with
          | 0, _ => exact go 0 (by decide)
          | 1, _ => exact go 1 (by decide)
          | 2, _ => exact go 2 (by decide)
          | 3, _ => exact go 3 (by decide)
          | 4, _ => exact go 4 (by decide)
          | 5, _ => exact go 5 (by decide)
          | 6, _ => exact hb
        rw [this] at hu; cases hu
    have ew := hw1 h6
    subst ew
    have pure_ : ∀ (o : Oper), ops[i]? = some o → o.guard = none → o.dst = some (31 + i) → i < 6 → (execOp (FR A 31 6 f).eval o).run Yba.prog W.drew = .ok (.value (vals7 P Bf g k i)) W.drew → wpOp Yba.prog ops Q i (fun a' w' => ∃ f, a' = FR A 31 6 f ∧ J7 W P Bf g k n f0 (listed.setIfInBounds i true) f w') (FR A 31 6 f) W.drew := by
      intro o ho hg hds h1 hr
      refine wpOp_val ho hg hr ⟨upd f i (vals7 P Bf g k i), by rw [hds]; exact FR_put A 31 6 f i _ h1, ?_, fun _ => rfl, ?_⟩
      · intro j hj hl
        rw [set_getD _ _ _ his] at hl
        show (if j = i then _ else f j) = _
        by_cases hij : i = j
        · subst hij; rw [if_pos rfl]
        · rw [if_neg hij] at hl
          rw [if_neg (Ne.symm hij)]
          exact hv j hj hl
      · intro h
        rw [set_getD _ _ _ his, if_neg (by omega), h6] at h; cases h
    have val : ∀ j, j < 6 → (i, j) ∈ edges7 → (FR A 31 6 f).eval (.tmp (31 + j)) = vals7 P Bf g k j := fun j hj he => (hev f j hj).trans (hv j hj (hd' j he))
    match i, hi, pure_, val with
    | 0, _, pure_, _ =>
      obtain ⟨o, ho, hop, hg, hds⟩ := o0
      exact pure_ o ho hg hds (by omega) ((exec_move hop).trans (by rw [hot f 3 (by omega), h3]; rfl))
    | 1, _, pure_, val =>
      obtain ⟨o, ho, hop, hg, hds⟩ := o1
      exact pure_ o ho hg hds (by omega) (exec_nil hop (val 0 (by omega) (by decide)))
    | 2, _, pure_, val =>
      obtain ⟨o, ho, hop, hg, hds⟩ := o2
      exact pure_ o ho hg hds (by omega) (exec_field (field42_0 W.drew P) hop (val 1 (by omega) (by decide)))
    | 3, _, pure_, val =>
      obtain ⟨o, ho, hop, hg, hds⟩ := o3
      exact pure_ o ho hg hds (by omega) (exec_load1 (load_cell agg39 W.drew ⟨P, 0, none⟩ _ (cell_of_row _ _ _ _ _ _ (show W.drew.heap[P]? = _ from hP))) hop (val 2 (by omega) (by decide)))
    | 4, _, pure_, val =>
      obtain ⟨o, ho, hop, hg, hds⟩ := o4
      exact pure_ o ho hg hds (by omega) (exec_ref hop ((hot f 5 (by omega)).trans h5) hT)
    | 5, _, pure_, _ =>
      obtain ⟨o, ho, hop, hg, hds⟩ := o5
      exact pure_ o ho hg hds (by omega) ((exec_move hop).trans (by rw [hot f 4 (by omega), h4]; rfl))
    | 6, _, _, val =>
      obtain ⟨o, ho, hop, hg, hds⟩ := o6
      obtain ⟨w', hr, hM, ht⟩ := (hF.of_block (w' := W.drew) rfl).update Yba.underlying39 hn hg4 (.int .i64 (k : Int))
      refine wpOp_unit ho hg hds (exec_mapUpdate hop (val 3 (by omega) (by decide)) (val 4 (by omega) (by decide)) (val 5 (by omega) (by decide)) hr) ⟨f, rfl, ?_, ?_, ?_⟩
      · intro j hj hl
        rw [set_getD _ _ _ his, if_neg (by omega)] at hl
        exact hv j hj hl
      · intro h
        rw [set_getD _ _ _ his, if_pos rfl] at h; cases h
      · intro _
        exact ⟨hM, ht⟩
    | n + 7, h, _, _ => omega

end Go.Proofs.Ybulkcryc
