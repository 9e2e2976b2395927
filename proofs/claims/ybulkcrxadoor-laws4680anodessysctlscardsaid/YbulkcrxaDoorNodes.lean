import Derived.Test.YbulkcrxaDoorN
import Derived.Test.YbulkcrxaDoorTie
import Derived.Test.YbulkcrxaDoorCards
import Derived.ProofKit
import Derived.LaidLaws
import Derived.LaidHandle
import Derived.OpenShut
import Derived.Deep.Slices
import Derived.Deep.Strs
import Derived.SizedLaws
import Derived.SevenTiedAt
namespace Go.Proofs.YbulkcrxaDoor
open Go.ChangeShapes Go.WideShapes Go.ChangeAt Go.RowKit

theorem own : ownKnob Ybad.prog.godebug = none := by kernel_rfl
theorem laidOut : laidOutB Ybad.prog = true := by kernel_rfl
theorem cells9 : Ybad.prog.cellsOf 9 = 1 := by kernel_rfl
theorem cells5 : Ybad.prog.cellsOf 5 = 1 := by kernel_rfl
theorem cells32 : Ybad.prog.cellsOf 32 = 3 := by kernel_rfl

/-- A start that meets the condition: two details laid in blocks of their own, the two handles pointing at them. -/
def handled (w : World) : World :=
  { w with heap := (w.heap.setIfInBounds 0 (.cells #[.pointer (some ⟨8, 0, none⟩)] 47)).setIfInBounds 1 (.cells #[.pointer (some ⟨9, 0, none⟩)] 47) }
def details : Array Obj := #[.cells #[.bool false, .string ⟨#[]⟩] 83, .cells #[.bool true, .string ⟨#[]⟩] 83]
theorem door_met (os : Os) (args : Array Value) : laidMetH Ybad.prog Rows.lawS4680ANodesSysctlsRow.laid ((handled (World.holding Ybad.prog os ⟨details, #[], []⟩)).forCall (fun _ _ => 0) ⟨#[], args, []⟩).memory :=
  laidMetH_of_parts3 (fuel := 8) (laidMet_of_run' 8 (by kernel_rfl) (by kernel_rfl)) (by kernel_rfl) (by kernel_rfl)

theorem weightsAll_mem {H : Type} {P : Program} {e : TypeId} {d : DataW H} {n : Nat} : ∀ {l : List (DataW H)}, d ∈ l → n ∈ d.weights P e → n ∈ DataW.weightsAll P e l
  | x :: r, h, hn => by
    simp only [DataW.weightsAll, List.mem_append]
    rcases List.mem_cons.1 h with rfl | h
    · exact .inl hn
    · exact .inr (weightsAll_mem h hn)

/-- A []string that came in, opened. -/
theorem open_names {H : Type} {enc : TypeId × Value → H} {W : World} {a : Option Addr} {len cap : Nat} {d : DataW H} {p : List MemPlace} (h : DataW.Trod enc Ybad.prog W 0 (fun _ => true) true 22 (.slice a len cap) d p) :
    ∃ l : List ByteArray, l.length = len ∧ (a = none → l = [] ∧ cap = 0) ∧ Strs W (.slice a l.length cap) l ∧ len ≤ 9223372036854775807 ∧ (∀ i, i < len → (l.getD i ByteArray.empty).size ∈ d.weights Ybad.prog 22) := by
  obtain ⟨fuel, hf⟩ := h
  rcases open_strings Ybad.underlying22 Ybad.underlying9 cells9 hf with ⟨hcs, hx⟩ | ⟨x, l, c, ss, hcs, _, hl, hm, hz, hx, hcell, hws⟩
  · simp [Value.cells] at hcs
    obtain ⟨rfl, rfl, rfl⟩ := hcs
    exact ⟨[], rfl, fun _ => ⟨rfl, rfl⟩, ⟨none, 0, rfl, .inl rfl⟩, by omega, fun i hi => by omega⟩
  · simp [Value.cells] at hcs
    obtain ⟨rfl, rfl, rfl⟩ := hcs
    simp only [if_true] at hz
    unfold maxLen at hm
    have hlen : (ss.take len).length = len := by simp; omega
    have hget : ∀ i, i < len → (ss.take len).getD i ByteArray.empty = ss.getD i ByteArray.empty := fun i hi => by
      simp only [List.getD_eq_getElem?_getD, List.getElem?_take, if_pos hi]
    refine ⟨ss.take len, hlen, (fun h => by cases h), ⟨some x, cap, rfl, ?_⟩, by omega, fun i hi => ?_⟩
    · by_cases h0 : len = 0
      · subst h0; exact .inl rfl
      · obtain ⟨b, off, spot⟩ := x
        have hspot : spot = none := by simpa [Addr.add] using World.cell?_spot (hcell 0 (by omega))
        subst hspot
        refine .inr ⟨b, off, rfl, fun i hi => ?_⟩
        rw [hlen] at hi
        rw [hget i hi, ← Go.WideShapes.add_plain]
        exact hcell i (by omega)
    · rw [hget i hi]
      simp only [Prod.mk.injEq] at hx
      rw [hx.1, DataW.weights, Ybad.underlying22]
      simp only [List.mem_cons, List.mem_append]
      refine .inr (.inl (weightsAll_mem (d := .lit (.string (ss.getD i ByteArray.empty).data.toList)) ?_ ?_))
      · refine List.mem_map.2 ⟨ss.getD i ByteArray.empty, ?_, rfl⟩
        rw [← hget i hi, List.getD_eq_getElem?_getD, List.getElem?_eq_getElem (by omega)]
        exact List.getElem_mem _
      · generalize ss.getD i ByteArray.empty = z
        rw [DataW.weights]
        exact List.mem_singleton.2 (Array.length_toList (xs := z.data)).symm

/-- The second argument, opened. -/
theorem open_sys {H : Type} {enc : TypeId × Value → H} {W : World} {a : Option Addr} {len cap : Nat} {d : DataW H} {p : List MemPlace} (h : DataW.Trod enc Ybad.prog W 0 (fun _ => true) true 23 (.slice a len cap) d p) :
    ∃ f, Sys W (.slice a len cap) len f ∧ len ≤ 9223372036854775807 := by
  obtain ⟨fuel, hf⟩ := h
  rcases Deep.open_slice Ybad.underlying23 hf with ⟨hcs, hx⟩ | ⟨x, l, c, m, n, D, Pl, hcs, _, hl, hm, hz, hx, hcell⟩
  · simp [Value.cells] at hcs
    obtain ⟨rfl, rfl, rfl⟩ := hcs
    exact ⟨fun _ => default, ⟨none, 0, rfl, .inl rfl⟩, by omega⟩
  · simp [Value.cells] at hcs
    obtain ⟨rfl, rfl, rfl⟩ := hcs
    simp only [if_true] at hz
    unfold maxLen at hm
    by_cases h0 : len = 0
    · exact ⟨fun _ => default, ⟨some x, cap, rfl, .inl h0⟩, by omega⟩
    have key : ∀ i, i < len → ∃ q : Int × ByteArray × ByteArray, W.cell? (x.add (i * 3)) = some (.int .u8 q.1) ∧ W.cell? (x.add (i * 3 + 1)) = some (.string q.2.1) ∧ W.cell? (x.add (i * 3 + 2)) = some (.string q.2.2) ∧ 0 ≤ q.1 ∧ q.1 ≤ 255 := by
      intro i hi
      obtain ⟨cs', e1, e2⟩ := hcell i (by omega)
      rw [cells32] at e1
      obtain ⟨_, hl3, hc3⟩ := World.cells?_some e1
      obtain ⟨y0, y1, y2, k, _, _, t0, t1, t2⟩ := Deep.trod_struct3 Ybad.underlying32 e2
      match cs', hl3 with
      | [k0, k1, k2], _ =>
        simp only [cells5, cells9] at t0 t1 t2
        obtain ⟨z, e3, _, wz⟩ := DataW.trod_int Ybad.underlying5 t0
        obtain ⟨s1, e4, _, _⟩ := DataW.trod_string Ybad.underlying9 t1
        obtain ⟨s2, e5, _, _⟩ := DataW.trod_string Ybad.underlying9 t2
        simp at e3 e4 e5
        subst e3 e4 e5
        have b := bounds_u8 wz
        refine ⟨(z, s1, s2), ?_, ?_, ?_, b.1, b.2⟩
        · have := hc3 0 (by omega); rw [Deep.add_add] at this; simpa using this
        · have := hc3 1 (by omega); rw [Deep.add_add] at this; simpa using this
        · have := hc3 2 (by omega); rw [Deep.add_add] at this; simpa using this
    obtain ⟨b, off, spot⟩ := x
    have hspot : spot = none := by
      obtain ⟨q, e, _⟩ := key 0 (by omega)
      simpa [Addr.add] using World.cell?_spot e
    subst hspot
    obtain ⟨f, hf⟩ := Deep.choose_lt key
    refine ⟨f, ⟨_, cap, rfl, .inr ⟨b, off, rfl, fun i hi => ?_⟩⟩, by omega⟩
    have := hf i hi
    simp only [Go.WideShapes.add_plain] at this
    simpa only [Nat.add_assoc] using this

set_option maxRecDepth 100000 in
theorem nodes_lifted (os : Os) (started : os.Started) (H : Type) (enc : TypeId × Value → H) :
    ReturnsInHanded {} Ybad.checked os 3 .any (fun w args => (Rows.lawS4680ANodesSysctlsSpec.pre enc Ybad.prog Ybad.f3 [] false w args ∧ laidMetH Ybad.prog Rows.lawS4680ANodesSysctlsRow.laid w) ∧ sizedMet enc Ybad.prog Ybad.f3 (OpenSpec.ofChange Rows.lawS4680ANodesSysctlsSpec) false w args)
      (Rows.lawS4680ANodesSysctlsSpec.post enc Ybad.prog Ybad.f3 false true false false) := by
  refine returnsInHanded_of_change_and (C := Ybad.checked) (X := fun w _ => laidMetH Ybad.prog Rows.lawS4680ANodesSysctlsRow.laid w) (fun _ _ _ hh h => h.of_heap hh) own started (by kernel_rfl) Ybad.func3
    (ChangeSpec.witness_shaped (enc := enc) (C := Ybad.checked) (os := os) (X := fun w _ => laidMetH Ybad.prog Rows.lawS4680ANodesSysctlsRow.laid w) false (handled (World.holding Ybad.prog os ⟨details, #[], []⟩)) #[.slice none 0 0, .slice none 0 0] 8 rfl (World.shaped_of_RefB (by kernel_rfl) (by kernel_rfl)) (by kernel_rfl) (by kernel_rfl) (by kernel_rfl) (door_met os _)) ?_
  intro W base args ds gs before hval0 hW _ hsz0 hL _
  have hval : ∀ (j : Nat) t v, Ybad.f3.params[j]? = some t → args[j]? = some v → Value.okWide Ybad.prog W .any base t v := hval0
  have hsz : (DataW.weightsEach Ybad.prog (Ybad.f3.params.toList ++ Rows.lawS4680ANodesSysctlsSpec.plain.varTypes Ybad.prog) (ds ++ gs)).all (· ≤ reachBytes) = true := hsz0
  have hW' := hW
  obtain ⟨p, q, hA0, hV, rfl, hfz, hnd⟩ := hW
  have hA : DataW.TrodAll enc Ybad.prog W 0 (fun _ => true) true Ybad.f3.params.toList args.toList ds p := hA0
  rw [Ybad.params3] at hA hval hsz
  obtain ⟨v0, v1, d0, d1, p0, p1, rfl, rfl, rfl, h0, h1⟩ := trodAll_two hA
  obtain ⟨rfl, rfl⟩ := trodVars_none hV
  obtain ⟨a0, len0, cap0, rfl⟩ := okWide_slice Ybad.underlying22 (hval 0 22 v0 rfl rfl)
  obtain ⟨a1, len1, cap1, rfl⟩ := okWide_slice Ybad.underlying23 (hval 1 23 v1 rfl rfl)
  have lt0 : ∀ x ∈ p0, x.block < W.heap.size := by obtain ⟨m, hm⟩ := h0; exact DataW.trod_lt m _ _ _ hm
  have lt1 : ∀ x ∈ p1, x.block < W.heap.size := by obtain ⟨m, hm⟩ := h1; exact DataW.trod_lt m _ _ _ hm
  obtain ⟨nodes, rfl, hn, hN, hnl, hw0⟩ := open_names h0
  obtain ⟨f, hY, hn1⟩ := open_sys h1
  have hsize : ∀ i, (nodes.getD i ByteArray.empty).size ≤ 140737488351232 := by
    intro i
    by_cases hi : i < nodes.length
    · have := List.all_eq_true.1 hsz _ (DataW.weights_mem_each (j := 0) (t := 22) (d := d0) rfl rfl _ (hw0 i hi))
      simpa [reachBytes] using this
    · rw [List.getD_eq_getElem?_getD, List.getElem?_eq_none (by omega)]
      exact Nat.zero_le _
  clear hA0 hval0 hsz0
  refine (nodes_walk a0 nodes cap0 _ len1 f W hn hN hY hsize hnl hn1).mono fun e W' ⟨he, bel⟩ => ?_
  subst he
  exact ⟨_, rfl, _, _, _, [], _, [], hW', trodAll_mk1 (shut_bool Ybad.underlying4 _), trodAll_mk2 (Below.trod laidOut (by kernel_rfl) (of_decide_eq_true (by kernel_rfl)) h0 bel lt0) (Below.trod laidOut (by kernel_rfl) (of_decide_eq_true (by kernel_rfl)) h1 bel lt1), rfl, bel.frame _, fun h => by cases h⟩

theorem nodes_row : Rows.LawS4680ANodesSysctlsSaid :=
  OpenClaim.holds_of_wide 3 Ybad.f3 rfl rfl rfl rfl rfl rfl rfl ⟨rfl, rfl, rfl, rfl, rfl⟩ rfl rfl rfl rfl rfl (by kernel_rfl) Ybad.func3 (by kernel_rfl)
    (of_decide_eq_true (by kernel_rfl)) (by unfold Func.isWrapper; first | (rw [if_pos (by decide +kernel)]; kernel_rfl) | (rw [if_neg (by decide +kernel)]; exact ⟨rfl, rfl⟩))
    (fun os started H enc _ => nodes_lifted os started H enc)

theorem nodes_card : Rows.LawS4680ANodesSysctlsCardSaid :=
  Claim7.holds_tied_plain_at .later [] [.called, .called, .zero] true (true, "efa336b3560417dc1c0ede07e9681811db69650b02bd920226090db93582b775") false
    nodes_row (fun _ h => by cases h) (by kernel_rfl) (fun _ h => by cases h) lawS4680ANodesSysctls_row_tie rfl ⟨rfl, rfl⟩ (by kernel_rfl) rfl
    (fun f fn hf hfn => by
      obtain rfl : f = 3 := Option.some.inj ((show Ybad.prog.funcNamed Rows.lawS4680ANodesSysctlsRow.func = some 3 by kernel_rfl).symm.trans hf) |>.symm
      obtain rfl : fn = Ybad.f3 := (Option.some.inj (Ybad.func3.symm.trans hfn)).symm
      exact ⟨by kernel_rfl, fun j t ht => by
        rw [Ybad.params3] at ht
        have hm : t ∈ [22, 23] := by simpa using Array.mem_of_getElem? ht
        have hall : ([22, 23].all fun u => !Ybad.prog.wantsStandIn u) = true := by kernel_rfl
        exact (show Ybad.prog.wantsStandIn t = false by simpa using List.all_eq_true.1 hall t hm)⟩)
    (by kernel_rfl)

end Go.Proofs.YbulkcrxaDoor
