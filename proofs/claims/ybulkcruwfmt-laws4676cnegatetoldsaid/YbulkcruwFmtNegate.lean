import Derived.Test.YbulkcruwFmtC
import Derived.Test.YbulkcruwFmtTwice
import Derived.Stop.LaidErr
import Derived.MakeChecks
namespace Go.Proofs.YbulkcruwFmt
open Go.ChangeShapes Go.WideShapes Go.ChangeAt Go.RowKit
open Go.Extern.Stop Go.Stop Go.Extern

theorem cells55 : Ybaf.prog.cellsOf 55 = 1 := by kernel_rfl
theorem cells9 : Ybaf.prog.cellsOf 9 = 1 := by kernel_rfl
def nErr : String := Rows.lawS4676CNegateSpec.vars.headD ""
def nNames : String := (Rows.lawS4676CNegateSpec.vars.drop 1).headD ""
theorem gErr : Ybaf.prog.globalNamed nErr = some 0 := by kernel_rfl
theorem gNames : Ybaf.prog.globalNamed nNames = some 1 := by kernel_rfl
theorem tErr : (Ybaf.prog.globals[0]?).map (·.type) = some 24 := by kernel_rfl
theorem tNames : (Ybaf.prog.globals[1]?).map (·.type) = some 38 := by kernel_rfl
theorem row53 (u : TypeId) (h : Ybaf.prog.typeName? 3 u = some errName) : u = 53 :=
  typeName_ptr_named (nm := "errors.errorString") (by kernel_rfl) (by kernel_rfl) (by decide) u (h.trans (congrArg some (by kernel_rfl)))

/-- What the listed variables give the walk. -/
theorem of_laid {W : World} (h : laidMetH Ybaf.prog Rows.lawS4676CNegateRow.laid W) :
    ∃ (a : Addr) (s : ByteArray) (nm : Nat → ByteArray), W.cell? ⟨0, 0, none⟩ = some (.iface 53 (.pointer (some a))) ∧ (∀ m, m < 7 → W.cell? ⟨1, m, none⟩ = some (.string (nm m))) ∧ W.cell? a = some (.string s) := by
  rw [MakeChecks.laidMetH_plain _ _ _ (by kernel_rfl)] at h
  have h' : laidMet Ybaf.prog ((nErr, .iface errName (.ptr (.agg [.lit (.string [111, 117, 116, 32, 111, 102, 32, 114, 97, 110, 103, 101])]))) :: [(nNames, Rows.laid_example_com_spanwise_spanwise_unitNames)]) W := h
  obtain ⟨a, s, hv, hc, _, _⟩ := laid_sentinel h' gErr tErr Ybaf.underlying24 row53 Ybaf.underlying53 Ybaf.underlying55 rfl rfl Ybaf.underlying9 cells55 cells9
  have hg : W.cell? ⟨0, 0, none⟩ = some (.iface 53 (.pointer (some a))) := by simpa using World.var?_cell gErr hv 0
  have h2 := h'.tail
  obtain ⟨ps, ⟨g1, t1, cs1, f1, p1, q1, hg1, ht1, hv1, hd1, _, _⟩, _, _⟩ := h2
  obtain rfl := Option.some.inj (gNames.symm.trans hg1)
  obtain rfl := Option.some.inj (tNames.symm.trans ht1)
  obtain ⟨xs, m1, rfl, _, hlen, hn7, hel⟩ := DataW.trod_array Ybaf.underlying38 hd1
  have hcell : ∀ m, m < 7 → ∃ n : ByteArray, W.cell? ⟨1, m, none⟩ = some (.string n) := by
    intro m hm
    have e := hel m hm
    rw [List.getElem?_eq_getElem (by omega), cells9, Nat.mul_one] at e
    obtain ⟨n, e1, _, _⟩ := DataW.trod_string Ybaf.underlying9 e
    have e2 := World.var?_cell hg1 hv1 m
    rw [e2]
    refine ⟨n, ?_⟩
    have e3 : (List.take 1 (List.drop m cs1.toList))[0]? = some (.string n) := by rw [e1]; rfl
    rw [List.getElem?_take, if_pos (by omega), List.getElem?_drop] at e3
    simpa using e3
  refine ⟨a, s, fun m => if hm : m < 7 then (hcell m hm).choose else default, hg, fun m hm => ?_, hc⟩
  dsimp only
  rw [dif_pos hm]
  exact (hcell m hm).choose_spec

theorem door_met' (os : Os) (args : Array Value) : laidMetH Ybaf.prog Rows.lawS4676CNegateRow.laid ((World.doorLaid Ybaf.prog 33 os).forCall (fun _ _ => 0) ⟨#[], args, []⟩).memory :=
  laidMetH_of_parts3 (fuel := 8) (laidMet_of_run' 8 (by kernel_rfl) (by kernel_rfl)) (by kernel_rfl) (by kernel_rfl)

set_option maxRecDepth 100000 in
theorem negate_lifted (os : Os) (started : os.Started) (H : Type) (enc : TypeId × Value → H) :
    ReturnsInTold none {} Ybaf.checked os 3 .any Input.okWide ((OpenSpec.ofChange Rows.lawS4676CNegateSpec).preRow enc Ybaf.prog Ybaf.f3 [] false Rows.lawS4676CNegateRow.laid)
      (fun F => ((OpenSpec.ofChange Rows.lawS4676CNegateSpec).at F).post enc Ybaf.prog Ybaf.f3 false true false false) (aloneAtReturn Ybaf.prog) nothingAlways := by
  refine returnsInTold_of_row (C := Ybaf.checked) (s := OpenSpec.ofChange Rows.lawS4676CNegateSpec) (by kernel_rfl) own started (by kernel_rfl) Ybaf.func3
    (OpenSpec.witness_stopped_atRef (enc := enc) (C := Ybaf.checked) false (World.doorLaid Ybaf.prog 33 os) #[.agg #[.int .i64 0, .int .i64 0, .int .i64 0, .int .i64 0, .int .i64 0, .int .i64 0, .int .i64 0], .int .u8 0] rfl (by kernel_rfl) (by kernel_rfl) (by kernel_rfl)
      (OpenSpec.preRow_of_B rfl 8 (by kernel_rfl) (by kernel_rfl) (door_met' os _))) ?_
  intro F W base args ds gs before _ hF hval0 hW _ _ _ hL _
  have hval : ∀ (j : Nat) t v, Ybaf.f3.params[j]? = some t → args[j]? = some v → Value.okWide Ybaf.prog W .any base t v := hval0
  have hW' := hW
  obtain ⟨p, q, hA0, hV0, rfl, hfz, hnd⟩ := hW
  have hA : DataW.TrodAll enc Ybaf.prog W 0 (fun _ => true) true Ybaf.f3.params.toList args.toList ds p := hA0
  have hV : DataW.TrodVars enc Ybaf.prog W (fun _ => true) Rows.lawS4676CNegateSpec.vars gs q := hV0
  rw [Ybaf.params3] at hA hval
  obtain ⟨v0, v1, d0, d1, p0, p1, rfl, rfl, rfl, h0, h1⟩ := trodAll_two hA
  obtain ⟨a0, a1, a2, a3, a4, a5, a6, rfl, hlo, hhi⟩ := open7 (hval 0 22 v0 rfl rfl) h0
  have lt0 : ∀ x ∈ p0, x.block < W.heap.size := by obtain ⟨m, hm⟩ := h0; exact DataW.trod_lt m _ _ _ hm
  obtain ⟨t, rfl, rfl, rfl, wt⟩ := open_int Ybaf.underlying5 (hval 1 5 v1 rfl rfl) h1
  obtain ⟨ht0, ht1⟩ := bounds_u8 wt
  obtain ⟨g0, g1, rfl⟩ : ∃ g0 g1, gs = [g0, g1] := by
    match gs, hV with
    | [g0, g1], _ => exact ⟨g0, g1, rfl⟩
    | [], h => exact h.elim
    | [_], ⟨_, _, _, _, _, _, _, _, _, _, h, _⟩ => exact h.elim
    | _ :: _ :: _ :: _, ⟨_, _, _, _, _, _, _, _, _, _, ⟨_, _, _, _, _, _, _, _, _, _, h, _⟩, _⟩ => exact h.elim
  obtain ⟨a, s, nm, hg, hn, hs⟩ := of_laid hL
  clear hA0 hV0 hval0
  refine (negate_walk F.told a0 a1 a2 a3 a4 a5 a6 t a s nm W hlo hhi ht0 ht1 hF hg hn hs).mono fun e W' ⟨he, bel⟩ => ?_
  subst he
  exact ⟨_, rfl, _, _, _, [], _, q, hW', trodAll_mk1 (shut_bool Ybaf.underlying4 _), trodAll_mk2 (Below.trod laidOut (by kernel_rfl) (of_decide_eq_true (by kernel_rfl)) h0 bel lt0) (shut_int Ybaf.underlying5 wt), Below.trodVars laidOut bel (by kernel_rfl) hV, bel.frame _, fun h => by cases h⟩

theorem negate_told : Rows.LawS4676CNegateToldSaid :=
  Claim7.holds_of_told_tied_any_at .later 3 Ybaf.f3 "fmt.errorf" [] [] _ _ _ _ _ (by kernel_rfl) rfl rfl rfl laidOut (by kernel_rfl) rfl ⟨rfl, rfl, rfl, rfl, rfl, rfl, rfl⟩ rfl rfl (by kernel_rfl) (by kernel_rfl) Ybaf.func3 (by kernel_rfl)
    (of_decide_eq_true (by kernel_rfl)) (by unfold Func.isWrapper; first | (rw [if_pos (by decide +kernel)]; kernel_rfl) | (rw [if_neg (by decide +kernel)]; exact ⟨rfl, rfl⟩)) stops.symm rfl stopKnobs.symm (by kernel_rfl)
    (by kernel_rfl) (by kernel_rfl) (by kernel_rfl) (by kernel_rfl) (by kernel_rfl) (by kernel_rfl) (by kernel_rfl) (by kernel_rfl) (by kernel_rfl) rfl (by kernel_rfl) rfl rfl
    rfl rfl
    rfl (by kernel_rfl) (by kernel_rfl) (by kernel_rfl) (by decide) (by kernel_rfl) lawS4676CNegate_row_tie
    (OpenClaim.moreEntering_of (by kernel_rfl) (by kernel_rfl) (by kernel_rfl) (by kernel_rfl) (by kernel_rfl) (by kernel_rfl) (by kernel_rfl) (by kernel_rfl) (by kernel_rfl) (by kernel_rfl))
    ⟨_, WideRow.started_initial, quiet _⟩
    (fun os started _ H enc _ => negate_lifted os started H enc)

end Go.Proofs.YbulkcruwFmt
