import Derived.Test.YbulkcrxaDoorZ
import Derived.Test.YbulkcrxaDoorOp
import Derived.Test.YbulkcrxaDoorTie
import Derived.Test.YbulkcrxaDoorCards
import Derived.SevenTiedAt
namespace Go.Proofs.YbulkcrxaDoor
open Go.ChangeShapes Go.WideShapes Go.ChangeAt Go.RowKit

theorem own : ownKnob Ybad.prog.godebug = none := by kernel_rfl
theorem laidOut : laidOutB Ybad.prog = true := by kernel_rfl

/-- A start that meets the condition: two details laid in blocks of their own, the two handles pointing at them. -/
def handled (w : World) : World :=
  { w with heap := (w.heap.setIfInBounds 0 (.cells #[.pointer (some ⟨8, 0, none⟩)] 47)).setIfInBounds 1 (.cells #[.pointer (some ⟨9, 0, none⟩)] 47) }
def details : Array Obj := #[.cells #[.bool false, .string ⟨#[]⟩] 83, .cells #[.bool true, .string ⟨#[]⟩] 83]
theorem door_met (os : Os) (args : Array Value) : laidMetH Ybad.prog Rows.lawS4680ALinksRoutesRow.laid ((handled (World.holding Ybad.prog os ⟨details, #[], []⟩)).forCall (fun _ _ => 0) ⟨#[], args, []⟩).memory :=
  laidMetH_of_parts3 (fuel := 8) (laidMet_of_run' 8 (by kernel_rfl) (by kernel_rfl)) (by kernel_rfl) (by kernel_rfl)

set_option maxRecDepth 100000 in
theorem links_lifted (os : Os) (started : os.Started) (H : Type) (enc : TypeId × Value → H) :
    ReturnsInHanded {} Ybad.checked os 4 .any (fun w args => (Rows.lawS4680ALinksRoutesSpec.pre enc Ybad.prog Ybad.f4 [] false w args ∧ laidMetH Ybad.prog Rows.lawS4680ALinksRoutesRow.laid w) ∧ sizedMet enc Ybad.prog Ybad.f4 (OpenSpec.ofChange Rows.lawS4680ALinksRoutesSpec) false w args)
      (Rows.lawS4680ALinksRoutesSpec.post enc Ybad.prog Ybad.f4 false true false false) := by
  refine returnsInHanded_of_change_and (C := Ybad.checked) (X := fun w _ => laidMetH Ybad.prog Rows.lawS4680ALinksRoutesRow.laid w) (fun _ _ _ hh h => h.of_heap hh) own started (by kernel_rfl) Ybad.func4
    (ChangeSpec.witness_shaped (enc := enc) (C := Ybad.checked) (os := os) (X := fun w _ => laidMetH Ybad.prog Rows.lawS4680ALinksRoutesRow.laid w) false (handled (World.holding Ybad.prog os ⟨details, #[], []⟩)) #[.slice none 0 0, .slice none 0 0] 8 rfl (World.shaped_of_RefB (by kernel_rfl) (by kernel_rfl)) (by kernel_rfl) (by kernel_rfl) (by kernel_rfl) (door_met os _)) ?_
  intro W base args ds gs before hval0 hW _ hsz0 hL _
  have hval : ∀ (j : Nat) t v, Ybad.f4.params[j]? = some t → args[j]? = some v → Value.okWide Ybad.prog W .any base t v := hval0
  have hsz : (DataW.weightsEach Ybad.prog (Ybad.f4.params.toList ++ Rows.lawS4680ALinksRoutesSpec.plain.varTypes Ybad.prog) (ds ++ gs)).all (· ≤ reachBytes) = true := hsz0
  have hW' := hW
  obtain ⟨p, q, hA0, hV, rfl, hfz, hnd⟩ := hW
  have hA : DataW.TrodAll enc Ybad.prog W 0 (fun _ => true) true Ybad.f4.params.toList args.toList ds p := hA0
  rw [Ybad.params4] at hA hval hsz
  obtain ⟨v0, v1, d0, d1, p0, p1, rfl, rfl, rfl, h0, h1⟩ := trodAll_two hA
  obtain ⟨rfl, rfl⟩ := trodVars_none hV
  obtain ⟨a0, len0, cap0, rfl⟩ := okWide_slice Ybad.underlying40 (hval 0 40 v0 rfl rfl)
  obtain ⟨a1, len1, cap1, rfl⟩ := okWide_slice Ybad.underlying41 (hval 1 41 v1 rfl rfl)
  have lt0 : ∀ x ∈ p0, x.block < W.heap.size := by obtain ⟨m, hm⟩ := h0; exact DataW.trod_lt m _ _ _ hm
  have lt1 : ∀ x ∈ p1, x.block < W.heap.size := by obtain ⟨m, hm⟩ := h1; exact DataW.trod_lt m _ _ _ hm
  obtain ⟨ls, hP, hnl, hw0⟩ := open_links h0
  obtain ⟨rs, hR, hn1, hw1⟩ := open_routes h1
  have hsize : ∀ i, (ls.getD i default).1.size ≤ 140737488351232 ∧ (ls.getD i default).2.size ≤ 140737488351232 := by
    intro i
    by_cases hi : i < ls.length
    · have t1 := List.all_eq_true.1 hsz _ (DataW.weights_mem_each (j := 0) (t := 40) (d := d0) rfl rfl _ (hw0 i hi).1)
      have t2 := List.all_eq_true.1 hsz _ (DataW.weights_mem_each (j := 0) (t := 40) (d := d0) rfl rfl _ (hw0 i hi).2)
      exact ⟨by simpa [reachBytes] using t1, by simpa [reachBytes] using t2⟩
    · rw [List.getD_eq_getElem?_getD, List.getElem?_eq_none (by omega)]
      exact ⟨Nat.zero_le _, Nat.zero_le _⟩
  have hsizr : ∀ i, (rs.getD i default).1.size ≤ 140737488351232 := by
    intro i
    by_cases hi : i < rs.length
    · have t1 := List.all_eq_true.1 hsz _ (DataW.weights_mem_each (j := 1) (t := 41) (d := d1) rfl rfl _ (hw1 i hi))
      simpa [reachBytes] using t1
    · rw [List.getD_eq_getElem?_getD, List.getElem?_eq_none (by omega)]
      exact Nat.zero_le _
  clear hA0 hval0 hsz0
  refine (links_walk _ _ ls rs W hP hR hsize hsizr hnl hn1 (of_laid hL)).mono fun e W' ⟨he, bel⟩ => ?_
  subst he
  exact ⟨_, rfl, _, _, _, [], _, [], hW', trodAll_mk1 (shut_bool Ybad.underlying4 _), trodAll_mk2 (Below.trod laidOut (by kernel_rfl) (of_decide_eq_true (by kernel_rfl)) h0 bel lt0) (Below.trod laidOut (by kernel_rfl) (of_decide_eq_true (by kernel_rfl)) h1 bel lt1), rfl, bel.frame _, fun h => by cases h⟩

theorem links_row : Rows.LawS4680ALinksRoutesSaid :=
  OpenClaim.holds_of_wide 4 Ybad.f4 rfl rfl rfl rfl rfl rfl rfl ⟨rfl, rfl, rfl, rfl, rfl⟩ rfl rfl rfl rfl rfl (by kernel_rfl) Ybad.func4 (by kernel_rfl)
    (of_decide_eq_true (by kernel_rfl)) (by unfold Func.isWrapper; first | (rw [if_pos (by decide +kernel)]; kernel_rfl) | (rw [if_neg (by decide +kernel)]; exact ⟨rfl, rfl⟩))
    (fun os started H enc _ => links_lifted os started H enc)

theorem links_card : Rows.LawS4680ALinksRoutesCardSaid :=
  Claim7.holds_tied_plain_at .later [] [.called, .called, .zero] true (true, "efa336b3560417dc1c0ede07e9681811db69650b02bd920226090db93582b775") false
    links_row (fun _ h => by cases h) (by kernel_rfl) (fun _ h => by cases h) lawS4680ALinksRoutes_row_tie rfl ⟨rfl, rfl⟩ (by kernel_rfl) rfl
    (fun f fn hf hfn => by
      obtain rfl : f = 4 := Option.some.inj ((show Ybad.prog.funcNamed Rows.lawS4680ALinksRoutesRow.func = some 4 by kernel_rfl).symm.trans hf) |>.symm
      obtain rfl : fn = Ybad.f4 := (Option.some.inj (Ybad.func4.symm.trans hfn)).symm
      exact ⟨by kernel_rfl, fun j t ht => by
        rw [Ybad.params4] at ht
        have hm : t ∈ [40, 41] := by simpa using Array.mem_of_getElem? ht
        have hall : ([40, 41].all fun u => !Ybad.prog.wantsStandIn u) = true := by kernel_rfl
        exact (show Ybad.prog.wantsStandIn t = false by simpa using List.all_eq_true.1 hall t hm)⟩)
    (by kernel_rfl)

end Go.Proofs.YbulkcrxaDoor
