import Derived.Test.YbulkcruwFmtA
import Derived.Test.YbulkcruwFmtTie
import Derived.Test.YbulkcruwFmtCards
import Derived.ProofKit
import Derived.LaidMore
import Derived.LaidHandle
import Derived.OpenShut
import Derived.OpenVars
import Derived.Stop.JoinedTold
import Derived.Deep.DeepWitnessRef
import Derived.SevenTiedAt
namespace Go.Proofs.YbulkcruwFmt
open Go.ChangeShapes Go.WideShapes Go.ChangeAt Go.RowKit
open Go.Extern.Stop Go.Stop Go.Extern

theorem own : ownKnob Ybaf.prog.godebug = none := by kernel_rfl
theorem laidOut : laidOutB Ybaf.prog = true := by kernel_rfl
theorem stops : Ybaf.pinned.checked.prog.stops = ["fmt.errorf"] := by kernel_rfl
theorem stopKnobs : Ybaf.pinned.checked.prog.stopKnobs = [] := by kernel_rfl
theorem quiet (os : Os) : Stop.quiet Ybaf.pinned.checked.prog os := by
  intro k hk
  rw [stopKnobs] at hk
  cases hk
theorem cells22 : Ybaf.prog.cellsOf 22 = 7 := by kernel_rfl

theorem list7 {α : Type} {l : List α} (h : l.length = 7) : ∃ c0 c1 c2 c3 c4 c5 c6, l = [c0, c1, c2, c3, c4, c5, c6] := by
  match l, h with
  | [c0, c1, c2, c3, c4, c5, c6], _ => exact ⟨c0, c1, c2, c3, c4, c5, c6, rfl⟩

theorem take_one {l : List Value} {i : Nat} {c : Value} (h : l[i]? = some c) : List.take 1 (List.drop i l) = [c] := by
  obtain ⟨hi, rfl⟩ := List.getElem?_eq_some_iff.1 h
  rw [List.drop_eq_getElem_cons hi]
  rfl

theorem open7 {H : Type} {enc : TypeId × Value → H} {W : World} {base : Nat} {v : Value} {d : DataW H} {p : List MemPlace} (hok : Value.okWide Ybaf.prog W .any base 22 v) (h : DataW.Trod enc Ybaf.prog W 0 (fun _ => true) true 22 v d p) :
    ∃ a0 a1 a2 a3 a4 a5 a6 : Int, v = .agg #[.int .i64 a0, .int .i64 a1, .int .i64 a2, .int .i64 a3, .int .i64 a4, .int .i64 a5, .int .i64 a6] ∧
      (∀ i, i < 7 → -9223372036854775808 ≤ nums a0 a1 a2 a3 a4 a5 a6 i) ∧ (∀ i, i < 7 → nums a0 a1 a2 a3 a4 a5 a6 i ≤ 9223372036854775807) := by
  have hcs : ∃ cs, v = .agg cs ∧ cs.size = Ybaf.prog.cellsOf 22 := by
    simp only [Value.okWide, Ybaf.underlying22] at hok
    obtain ⟨cs, h1, h2, _⟩ := hok
    exact ⟨cs, h1, h2⟩
  obtain ⟨⟨l⟩, rfl, hsz⟩ := hcs
  rw [cells22] at hsz
  obtain ⟨c0, c1, c2, c3, c4, c5, c6, rfl⟩ := list7 (l := l) hsz
  obtain ⟨fuel, hf⟩ := h
  obtain ⟨xs, m, rfl, _, _, hlen, hel⟩ := DataW.trod_array Ybaf.underlying22 hf
  have key : ∀ (i : Nat) (c : Value), i < 7 → [c0, c1, c2, c3, c4, c5, c6][i]? = some c → ∃ a : Int, c = .int .i64 a ∧ -9223372036854775808 ≤ a ∧ a ≤ 9223372036854775807 := by
    intro i c hi hc
    have h1 := hel i hi
    rw [List.getElem?_eq_getElem (by omega)] at h1
    rw [cells3, Nat.mul_one] at h1
    have h2 : List.take 1 (List.drop i (Value.cells (.agg ⟨[c0, c1, c2, c3, c4, c5, c6]⟩)).toList) = [c] := take_one hc
    rw [h2] at h1
    obtain ⟨a, e1, _, wa⟩ := DataW.trod_int Ybaf.underlying3 h1
    have := bounds_i64 wa
    exact ⟨a, by simpa using e1, this.1, this.2⟩
  obtain ⟨a0, rfl, l0, u0⟩ := key 0 c0 (by omega) rfl
  obtain ⟨a1, rfl, l1, u1⟩ := key 1 c1 (by omega) rfl
  obtain ⟨a2, rfl, l2, u2⟩ := key 2 c2 (by omega) rfl
  obtain ⟨a3, rfl, l3, u3⟩ := key 3 c3 (by omega) rfl
  obtain ⟨a4, rfl, l4, u4⟩ := key 4 c4 (by omega) rfl
  obtain ⟨a5, rfl, l5, u5⟩ := key 5 c5 (by omega) rfl
  obtain ⟨a6, rfl, l6, u6⟩ := key 6 c6 (by omega) rfl
  refine ⟨a0, a1, a2, a3, a4, a5, a6, rfl, fun i hi => ?_, fun i hi => ?_⟩
  · match i, hi with
    | 0, _ => exact l0
    | 1, _ => exact l1
    | 2, _ => exact l2
    | 3, _ => exact l3
    | 4, _ => exact l4
    | 5, _ => exact l5
    | 6, _ => exact l6
    | n + 7, h => omega
  · match i, hi with
    | 0, _ => exact u0
    | 1, _ => exact u1
    | 2, _ => exact u2
    | 3, _ => exact u3
    | 4, _ => exact u4
    | 5, _ => exact u5
    | 6, _ => exact u6
    | n + 7, h => omega

theorem door_met (os : Os) (args : Array Value) : laidMetH Ybaf.prog Rows.lawS4676CTwiceRow.laid ((World.doorLaid Ybaf.prog 33 os).forCall (fun _ _ => 0) ⟨#[], args, []⟩).memory :=
  laidMetH_of_parts3 (fuel := 8) (laidMet_of_run' 8 (by kernel_rfl) (by kernel_rfl)) (by kernel_rfl) (by kernel_rfl)

set_option maxRecDepth 100000 in
theorem twice_lifted (os : Os) (started : os.Started) (H : Type) (enc : TypeId × Value → H) :
    ReturnsInTold none {} Ybaf.checked os 4 .any Input.okWide ((OpenSpec.ofChange Rows.lawS4676CTwiceSpec).preRow enc Ybaf.prog Ybaf.f4 [] false Rows.lawS4676CTwiceRow.laid)
      (fun F => ((OpenSpec.ofChange Rows.lawS4676CTwiceSpec).at F).post enc Ybaf.prog Ybaf.f4 false true false false) (aloneAtReturn Ybaf.prog) nothingAlways := by
  refine returnsInTold_of_row (C := Ybaf.checked) (s := OpenSpec.ofChange Rows.lawS4676CTwiceSpec) (by kernel_rfl) own started (by kernel_rfl) Ybaf.func4
    (OpenSpec.witness_stopped_atRef (enc := enc) (C := Ybaf.checked) false (World.doorLaid Ybaf.prog 33 os) #[.agg #[.int .i64 0, .int .i64 0, .int .i64 0, .int .i64 0, .int .i64 0, .int .i64 0, .int .i64 0]] rfl (by kernel_rfl) (by kernel_rfl) (by kernel_rfl)
      (OpenSpec.preRow_of_B rfl 8 (by kernel_rfl) (by kernel_rfl) (door_met os _))) ?_
  intro F W base args ds gs before _ hF hval0 hW _ _ _ hL _
  have hval : ∀ (j : Nat) t v, Ybaf.f4.params[j]? = some t → args[j]? = some v → Value.okWide Ybaf.prog W .any base t v := hval0
  have hW' := hW
  obtain ⟨p, q, hA0, hV0, rfl, hfz, hnd⟩ := hW
  have hA : DataW.TrodAll enc Ybaf.prog W 0 (fun _ => true) true Ybaf.f4.params.toList args.toList ds p := hA0
  have hV : DataW.TrodVars enc Ybaf.prog W (fun _ => true) Rows.lawS4676CTwiceSpec.vars gs q := hV0
  rw [Ybaf.params4] at hA hval
  obtain ⟨v0, d0, rfl, rfl, h0⟩ := trodAll_one hA
  obtain ⟨a0, a1, a2, a3, a4, a5, a6, rfl, hlo, hhi⟩ := open7 (hval 0 22 v0 rfl rfl) h0
  have lt0 : ∀ x ∈ p, x.block < W.heap.size := by obtain ⟨m, hm⟩ := h0; exact DataW.trod_lt m _ _ _ hm
  obtain ⟨g0, g1, rfl⟩ : ∃ g0 g1, gs = [g0, g1] := by
    match gs, hV with
    | [g0, g1], _ => exact ⟨g0, g1, rfl⟩
    | [], h => exact h.elim
    | [_], ⟨_, _, _, _, _, _, _, _, _, _, h, _⟩ => exact h.elim
    | _ :: _ :: _ :: _, ⟨_, _, _, _, _, _, _, _, _, _, ⟨_, _, _, _, _, _, _, _, _, _, h, _⟩, _⟩ => exact h.elim
  clear hA0 hV0 hval0
  refine (twice_walk a0 a1 a2 a3 a4 a5 a6 W hlo hhi).mono fun e W' ⟨he, bel⟩ => ?_
  subst he
  exact ⟨_, rfl, _, _, _, [], p, q, hW', trodAll_mk1 (shut_bool Ybaf.underlying4 _), trodAll_mk1 (Below.trod laidOut (by kernel_rfl) (of_decide_eq_true (by kernel_rfl)) h0 bel lt0), Below.trodVars laidOut bel (by kernel_rfl) hV, bel.frame _, fun h => by cases h⟩

theorem twice_told : Rows.LawS4676CTwiceToldSaid :=
  Claim7.holds_of_told_tied_any_at .later 4 Ybaf.f4 "fmt.errorf" [] [] _ _ _ _ _ (by kernel_rfl) rfl rfl rfl laidOut (by kernel_rfl) rfl ⟨rfl, rfl, rfl, rfl, rfl, rfl, rfl⟩ rfl rfl (by kernel_rfl) (by kernel_rfl) Ybaf.func4 (by kernel_rfl)
    (of_decide_eq_true (by kernel_rfl)) (by unfold Func.isWrapper; first | (rw [if_pos (by decide +kernel)]; kernel_rfl) | (rw [if_neg (by decide +kernel)]; exact ⟨rfl, rfl⟩)) stops.symm rfl stopKnobs.symm (by kernel_rfl)
    (by kernel_rfl) (by kernel_rfl) (by kernel_rfl) (by kernel_rfl) (by kernel_rfl) (by kernel_rfl) (by kernel_rfl) (by kernel_rfl) (by kernel_rfl) rfl (by kernel_rfl) rfl rfl
    rfl rfl
    rfl (by kernel_rfl) (by kernel_rfl) (by kernel_rfl) (by decide) (by kernel_rfl) lawS4676CTwice_row_tie
    (OpenClaim.moreEntering_of (by kernel_rfl) (by kernel_rfl) (by kernel_rfl) (by kernel_rfl) (by kernel_rfl) (by kernel_rfl) (by kernel_rfl) (by kernel_rfl) (by kernel_rfl) (by kernel_rfl))
    ⟨_, WideRow.started_initial, quiet _⟩
    (fun os started _ H enc _ => twice_lifted os started H enc)

end Go.Proofs.YbulkcruwFmt
