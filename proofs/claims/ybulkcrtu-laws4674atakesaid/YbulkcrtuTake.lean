import Derived.Test.YbulkcrtuTQ
import Derived.WalkKit
import Derived.ProofKit
import Derived.OpenShut
import Derived.ShutString
import Derived.ChangeOld
import Derived.Below
import Derived.Deep.SlicePairs
import Derived.Deep.Grids
namespace Go.Proofs.Ybulkcrtu
open Go.ChangeShapes Go.WideShapes Go.ChangeAt Go.RowKit Go.Deep

theorem own : ownKnob Yba.prog.godebug = none := by kernel_rfl
theorem laidOut : laidOutB Yba.prog = true := by kernel_rfl
theorem bounds_u8 {a : Int} (h : (Lit.int .u8 a).wf = true) : 0 ≤ a ∧ a ≤ 255 := by
  simp [Lit.wf] at h
  have h1 : IntKind.u8.min = 0 := by kernel_rfl
  have h2 : IntKind.u8.max = 255 := by kernel_rfl
  omega
/-- A slice that may be handed in: nil, or a place in a block that is there. -/
def InMem (W : World) (v : Value) : Prop := v = .slice none 0 0 ∨ ∃ b o n c, v = .slice (some ⟨b, o, none⟩) n c ∧ n ≤ c ∧ c ≤ 9223372036854775807 ∧ b < W.heap.size
theorem InMem.lt {W : World} {v : Value} (h : InMem W v) : ∀ b o n c, v = .slice (some ⟨b, o, none⟩) n c → b < W.heap.size := by
  rintro b o n c rfl
  rcases h with h | ⟨b', o', n', c', h, _, _, hb⟩
  · cases h
  · cases h
    exact hb
theorem inMem_of {P : Program} {W : World} {base : Nat} {t e : TypeId} {v : Value} (ht : P.underlying t = some (.slice e)) (h : Value.okWide P W .any base t v) : InMem W v := by
  obtain ⟨a, len, cap, rfl⟩ := okWide_slice ht h
  simp only [Value.okWide, ht, Cell.okWide] at h
  cases a with
  | none =>
    simp only [Cell.ok, ht] at h
    split at h <;> simp_all
    exact .inl rfl
  | some a =>
    simp only [Cell.ok, ht] at h
    obtain ⟨h1, h2, h3⟩ := h
    obtain ⟨_, hs, row, cells, hsh, _⟩ := h3
    obtain ⟨b, o, s⟩ := a
    simp only at hs
    subst hs
    have hm : IntKind.i64.max = 9223372036854775807 := by kernel_rfl
    refine .inr ⟨b, o, len, cap, rfl, h1, by omega, ?_⟩
    unfold World.shape? at hsh
    split at hsh
    · rename_i hb
      exact (Array.getElem?_eq_some_iff.1 hb).1
    · cases hsh
section
variable {H : Type} {enc : TypeId × Value → H} {W : World}
theorem bools_of {v : Value} (hv : InMem W v) {fuel : Nat} {x : DataW H × List MemPlace} (h : DataW.trod enc Yba.prog W 0 (fun _ => true) true fuel 23 v.cells.toList = some x) : ∃ os, Bools W v os ∧ os.length ≤ 9223372036854775807 := by
  rcases hv with rfl | ⟨b, o, n, c, rfl, h1, h2, h3⟩
  · exact ⟨[], ⟨none, 0, rfl, fun k x hk => by simp at hk⟩, by simp⟩
  · rcases open_bools Yba.underlying23 Yba.underlying4 (by kernel_rfl) h with ⟨hcs, _⟩ | ⟨a, l, c', B, hcs, _, hl, hm, _, hcell⟩
    · simp [Value.cells] at hcs
    · simp [Value.cells] at hcs
      obtain ⟨rfl, rfl, rfl⟩ := hcs
      refine ⟨(List.range n).map B, ⟨some ⟨b, o, none⟩, c, by simp, fun k x hk => ⟨b, o, rfl, ?_⟩⟩, by simp; omega⟩
      have hk' : k < n := by
        have := (List.getElem?_eq_some_iff.1 hk).1
        simpa using this
      have hx : B k = x := by simpa [hk'] using hk
      have := hcell k (by omega)
      rw [Go.WideShapes.add_plain, hx] at this
      exact this
def natOf (v : Value) : Nat := match v with
  | .int _ n => n.toNat
  | _ => 0
theorem zr_of {v : Value} (hv : InMem W v) {fuel : Nat} {x : DataW H × List MemPlace} (h : DataW.trod enc Yba.prog W 0 (fun _ => true) true fuel 22 v.cells.toList = some x) : ∃ n raw, ZR W v n raw ∧ ∀ k, k < n → (raw k).1 ≤ 255 ∧ (raw k).2 ≤ 255 := by
  rcases hv with rfl | ⟨b, o, n, c, rfl, h1, h2, h3⟩
  · exact ⟨0, fun _ => (0, 0), ⟨none, 0, rfl, fun k hk => by omega⟩, fun k hk => by omega⟩
  · rcases open_slice_pairs Yba.underlying22 Yba.underlying52 (by kernel_rfl) rfl rfl (by kernel_rfl) (by kernel_rfl) h with ⟨hcs, _⟩ | ⟨a, l, c', m, fu, V0, V1, D0, D1, P0, P1, hcs, _, hl, hm, hmm, _, hcell⟩
    · simp [Value.cells] at hcs
    · simp [Value.cells] at hcs
      obtain ⟨rfl, rfl, rfl⟩ := hcs
      simp only [if_true] at hmm
      subst hmm
      have hall : ∀ k, k < n → W.cell? ⟨b, o + k * 2, none⟩ = some (.int .u8 ((natOf (V0 k) : Nat) : Int)) ∧ W.cell? ⟨b, o + k * 2 + 1, none⟩ = some (.int .u8 ((natOf (V1 k) : Nat) : Int)) ∧ natOf (V0 k) ≤ 255 ∧ natOf (V1 k) ≤ 255 := fun k hk => by
        obtain ⟨e0, e1, t0, t1⟩ := hcell k (by omega)
        obtain ⟨z0, hz0, _, w0⟩ := DataW.trod_int Yba.underlying5 t0
        obtain ⟨z1, hz1, _, w1⟩ := DataW.trod_int Yba.underlying5 t1
        simp only [List.cons.injEq, and_true] at hz0 hz1
        rw [hz0, Go.WideShapes.add_plain] at e0
        rw [hz1, Go.WideShapes.add_plain] at e1
        have b0 := bounds_u8 w0
        have b1 := bounds_u8 w1
        rw [hz0, hz1]
        simp only [natOf]
        rw [Int.toNat_of_nonneg b0.1, Int.toNat_of_nonneg b1.1]
        refine ⟨e0, ?_, by omega, by omega⟩
        rw [Nat.add_assoc]
        exact e1
      exact ⟨n, fun k => (natOf (V0 k), natOf (V1 k)), ⟨_, _, rfl, fun k hk => ⟨b, o, rfl, (hall k hk).1, (hall k hk).2.1⟩⟩, fun k hk => (hall k hk).2.2⟩
end
theorem walk (fr self lo wd : Int) (whole plc : Bool) (rv pv vown dv : Value) (n mp : Nat) (raw raw2 : Nat → Nat × Nat) (os ds : List Bool) (W : World) (h0 : (Lit.int .u8 fr).wf = true) (h1 : (Lit.int .u8 self).wf = true) (h7 : (Lit.int .u8 lo).wf = true) (h8 : (Lit.int .u8 wd).wf = true)
    (hr : InMem W rv) (hp : InMem W pv) (ho : InMem W vown) (hraw : ∀ k, k < n → (raw k).1 ≤ 255 ∧ (raw k).2 ≤ 255) (hraw2 : ∀ k, k < mp → (raw2 k).1 ≤ 255 ∧ (raw2 k).2 ≤ 255) (hol : os.length ≤ 9223372036854775807)
    (hB : Bools W vown os) (hE : Bools W dv ds) (hZ : ZR W rv n raw) (hZp : ZR W pv mp raw2) :
    Calls Yba.prog 3 #[.int .u8 fr, .int .u8 self, rv, .bool whole, vown, dv, .bool plc, .int .u8 lo, .int .u8 wd, pv] W fun e w' => e = .returned (.bool true) ∧ Below W.heap.size W w' := by
  have b0 := bounds_u8 h0
  have b1 := bounds_u8 h1
  have b7 := bounds_u8 h7
  have b8 := bounds_u8 h8
  have := law_walk fr self lo.toNat wd.toNat n mp whole plc rv pv vown dv raw raw2 os ds W b0 b1 (by omega) (by omega) hraw hraw2 hol ho.lt hr.lt hp.lt hB hE hZ hZp
  rw [Int.toNat_of_nonneg b7.1, Int.toNat_of_nonneg b8.1] at this
  exact this
set_option maxRecDepth 100000 in
theorem lifted (os : Os) (started : os.Started) (H : Type) (enc : TypeId × Value → H) :
    ReturnsInHanded {} Yba.checked os 3 .any (Rows.lawS4674ATakeSpec.pre6 enc Yba.prog Yba.f3 Rows.lawS4674ATakeRow.domain false) (Rows.lawS4674ATakeSpec.post enc Yba.prog Yba.f3 false true false false) := by
  refine returnsInHanded_of_change (C := Yba.checked) own started (by kernel_rfl) Yba.func3
    (ChangeSpec.witness6 (enc := enc) (C := Yba.checked) false ⟨#[], #[.int .u8 0, .int .u8 0, .slice none 0 0, .bool false, .slice none 0 0, .slice none 0 0, .bool false, .int .u8 0, .int .u8 0, .slice none 0 0], []⟩ 8 (by kernel_rfl) (by kernel_rfl) (by kernel_rfl) (by kernel_rfl)) ?_
  intro W base args ds gs before hval0 hW hcnd _
  have hval : ∀ (j : Nat) t v, Yba.f3.params[j]? = some t → args[j]? = some v → Value.okWide Yba.prog W .any base t v := hval0
  have hW' := hW
  obtain ⟨p, q, hA0, hV, rfl, hfz, hnd⟩ := hW
  have hA : DataW.TrodAll enc Yba.prog W 0 (fun _ => true) true Yba.f3.params.toList args.toList ds p := hA0
  rw [Yba.params3] at hA hval
  obtain ⟨v0, vs0, d0, ds0, p0, q0, hargs, rfl, rfl, h0, r0⟩ := trodAll_cons hA
  obtain ⟨v1, vs1, d1, ds1, p1, q1, rfl, rfl, rfl, h1, r1⟩ := trodAll_cons r0
  obtain ⟨v2, vs2, d2, ds2, p2, q2, rfl, rfl, rfl, h2, r2⟩ := trodAll_cons r1
  obtain ⟨v3, vs3, d3, ds3, p3, q3, rfl, rfl, rfl, h3, r3⟩ := trodAll_cons r2
  obtain ⟨v4, vs4, d4, ds4, p4, q4, rfl, rfl, rfl, h4, r4⟩ := trodAll_cons r3
  obtain ⟨v5, vs5, d5, ds5, p5, q5, rfl, rfl, rfl, h5, r5⟩ := trodAll_cons r4
  obtain ⟨v6, vs6, d6, ds6, p6, q6, rfl, rfl, rfl, h6, r6⟩ := trodAll_cons r5
  obtain ⟨v7, vs7, d7, ds7, p7, q7, rfl, rfl, rfl, h7, r7⟩ := trodAll_cons r6
  obtain ⟨v8, vs8, d8, ds8, p8, q8, rfl, rfl, rfl, h8, r8⟩ := trodAll_cons r7
  obtain ⟨v9, vs9, d9, ds9, p9, q9, rfl, rfl, rfl, h9, r9⟩ := trodAll_cons r8
  obtain ⟨rfl, rfl, rfl⟩ := trodAll_nil r9
  obtain rfl : args = #[v0, v1, v2, v3, v4, v5, v6, v7, v8, v9] := by cases args; simp_all
  obtain ⟨rfl, rfl⟩ := trodVars_none hV
  have i2 := inMem_of Yba.underlying22 (hval 2 22 v2 rfl rfl)
  have i4 := inMem_of Yba.underlying23 (hval 4 23 v4 rfl rfl)
  have i5 := inMem_of Yba.underlying23 (hval 5 23 v5 rfl rfl)
  have i9 := inMem_of Yba.underlying22 (hval 9 22 v9 rfl rfl)
  have k2 := h2
  have k4 := h4
  have k5 := h5
  have k9 := h9
  have lt2 : ∀ x ∈ p2, x.block < W.heap.size := by obtain ⟨m, hm⟩ := k2; exact DataW.trod_lt m _ _ _ hm
  have lt4 : ∀ x ∈ p4, x.block < W.heap.size := by obtain ⟨m, hm⟩ := k4; exact DataW.trod_lt m _ _ _ hm
  have lt5 : ∀ x ∈ p5, x.block < W.heap.size := by obtain ⟨m, hm⟩ := k5; exact DataW.trod_lt m _ _ _ hm
  have lt9 : ∀ x ∈ p9, x.block < W.heap.size := by obtain ⟨m, hm⟩ := k9; exact DataW.trod_lt m _ _ _ hm
  obtain ⟨n2, raw2, z2, y2⟩ : ∃ n raw, ZR W v2 n raw ∧ ∀ k, k < n → (raw k).1 ≤ 255 ∧ (raw k).2 ≤ 255 := by obtain ⟨m, hm⟩ := h2; exact zr_of i2 hm
  obtain ⟨n9, raw9, z9, y9⟩ : ∃ n raw, ZR W v9 n raw ∧ ∀ k, k < n → (raw k).1 ≤ 255 ∧ (raw k).2 ≤ 255 := by obtain ⟨m, hm⟩ := h9; exact zr_of i9 hm
  obtain ⟨os4, b4, l4⟩ : ∃ os, Bools W v4 os ∧ os.length ≤ 9223372036854775807 := by obtain ⟨m, hm⟩ := h4; exact bools_of i4 hm
  obtain ⟨os5, b5, l5⟩ : ∃ os, Bools W v5 os ∧ os.length ≤ 9223372036854775807 := by obtain ⟨m, hm⟩ := h5; exact bools_of i5 hm
  obtain ⟨a0, rfl, rfl, rfl, w0⟩ := open_int Yba.underlying5 (hval 0 5 v0 rfl rfl) h0
  obtain ⟨a1, rfl, rfl, rfl, w1⟩ := open_int Yba.underlying5 (hval 1 5 v1 rfl rfl) h1
  obtain ⟨a3, rfl, rfl, rfl⟩ := open_bool Yba.underlying4 (hval 3 4 v3 rfl rfl) h3
  obtain ⟨a6, rfl, rfl, rfl⟩ := open_bool Yba.underlying4 (hval 6 4 v6 rfl rfl) h6
  obtain ⟨a7, rfl, rfl, rfl, w7⟩ := open_int Yba.underlying5 (hval 7 5 v7 rfl rfl) h7
  obtain ⟨a8, rfl, rfl, rfl, w8⟩ := open_int Yba.underlying5 (hval 8 5 v8 rfl rfl) h8
  clear hA0 hval0
  refine (walk a0 a1 a7 a8 a3 a6 v2 v9 v4 v5 n2 n9 raw2 raw9 os4 os5 W w0 w1 w7 w8 i2 i9 i4 y2 y9 l4 b4 b5 z2 z9).mono fun e W' ⟨he, bel⟩ => ?_
  subst he
  exact ⟨_, rfl, _, _, _, [], _, [], hW', trodAll_mk1 (shut_bool Yba.underlying4 _), (trodAll_cons_mk (shut_int Yba.underlying5 w0) (trodAll_cons_mk (shut_int Yba.underlying5 w1) (trodAll_cons_mk (Below.trod laidOut (by kernel_rfl) (of_decide_eq_true (by kernel_rfl)) k2 bel lt2) (trodAll_cons_mk (shut_bool Yba.underlying4 _) (trodAll_cons_mk (Below.trod laidOut (by kernel_rfl) (of_decide_eq_true (by kernel_rfl)) k4 bel lt4) (trodAll_cons_mk (Below.trod laidOut (by kernel_rfl) (of_decide_eq_true (by kernel_rfl)) k5 bel lt5) (trodAll_cons_mk (shut_bool Yba.underlying4 _) (trodAll_cons_mk (shut_int Yba.underlying5 w7) (trodAll_cons_mk (shut_int Yba.underlying5 w8) (trodAll_cons_mk (Below.trod laidOut (by kernel_rfl) (of_decide_eq_true (by kernel_rfl)) k9 bel lt9) trodAll_mk0)))))))))), rfl, bel.frame _, fun h => by cases h⟩

theorem over : Rows.lawS4674ATakeRow.holds Yba.pinned (OpenSpec.ofChange Rows.lawS4674ATakeSpec) :=
  OpenClaim.holds_of_wide 3 Yba.f3 rfl rfl rfl rfl rfl rfl rfl ⟨rfl, rfl, rfl, rfl, rfl⟩ rfl rfl rfl rfl rfl (by kernel_rfl) Yba.func3 (by kernel_rfl)
    (of_decide_eq_true (by kernel_rfl)) (by unfold Func.isWrapper; first | (rw [if_pos (by decide +kernel)]; kernel_rfl) | (rw [if_neg (by decide +kernel)]; exact ⟨rfl, rfl⟩))
    (fun os started H enc _ => lifted os started H enc)

theorem take_proved : Rows.LawS4674ATakeSaid := over
end Go.Proofs.Ybulkcrtu
