import Derived.Test.YbulkcrycD
namespace Go.Proofs.Ybulkcryc
open Go.RowKit Go.ChangeMaps Go.MapKept

theorem of_any (P g : Nat) (w : World) : Calls Yba.prog 7 #[.pointer (some ⟨P, 0, none⟩), refV g] w fun e w' => e = .returned (.func (.func 12) #[] #[.pointer (some ⟨w.heap.size, 0, none⟩), .pointer (some ⟨w.heap.size + 1, 0, none⟩)]) ∧ w' = (w.alloc (.cells #[.pointer (some ⟨P, 0, none⟩)] 27)).alloc (.cells (refC g).toArray 33) := by
  have h : ∀ (fn : Fn) (first cap : Array Value) (w : World), (Instr.makeFunc fn first cap).run Yba.prog w = .ok (.func fn first cap) w := fun _ _ _ _ => rfl
  unfold refV
  go_enter Yba.func7, Yba.ntmps7
  go_wp2
  go_ret
  exact ⟨rfl, rfl⟩

theorem more_look {w0 w1 : World} {Bf base n g : Nat} {ks : Nat → Nat} {mo : Option Nat} (hM : More w0 Bf base n ks mo) (h : Below w0.heap.size w0 w1) (hg : g ≤ 4) : ∃ a c, (∀ m, (Instr.lookup 40 (.map mo) (refV g) false).run Yba.prog (w1.drewN m) = .ok (.slice a (ix ks g n).tail.length c) (w1.drewN m)) ∧
    ((ix ks g n).tail = [] ∨ ∃ b, a = some ⟨b, 0, none⟩ ∧ b < w0.heap.size ∧ ∀ i, i < (ix ks g n).tail.length → w0.cell? ⟨b, i, none⟩ = some (.int .i64 (((ix ks g n).tail.getD i 0 : Nat) : Int))) := by
  cases mo with
  | none =>
    refine ⟨none, 0, fun m => ?_, .inl (hM g hg)⟩
    rw [hM g hg]
    exact Maps.look_nil false keyed33 Yba.underlying40 (zero24 _) (hkey g)
  | some Bm =>
    obtain ⟨_, fv, hMm, m1, m2, _⟩ := hM
    have hl : ∀ m, (Instr.lookup 40 (.map (some Bm)) (refV g) false).run Yba.prog (w1.drewN m) = .ok ((fv g).getD (.slice none 0 0)) (w1.drewN m) := fun m => (hMm.of_block (w' := w1.drewN m) (h.block Bm hMm.lt)).look Yba.underlying40 (zero24 _) hg
    cases hf : fv g with
    | none =>
      refine ⟨none, 0, fun m => ?_, .inl (m1 g hg hf)⟩
      rw [hl m, hf, m1 g hg hf]
      rfl
    | some v =>
      obtain ⟨hO, _⟩ := m2 g v hg hf
      obtain ⟨a, c, hv⟩ := hO.shape
      refine ⟨a, c, fun m => by rw [hl m, hf, hv]; rfl, ?_⟩
      rcases hO.2 with ⟨_, e2⟩ | ⟨q, cap, cur, e, _, hq, _⟩
      · exact .inl (List.eq_nil_of_length_eq_zero e2)
      · have ea : a = some ⟨q, 0, none⟩ := by
          have := hv.symm.trans e
          simp only [Value.slice.injEq] at this
          exact this.1
        refine .inr ⟨q, ea, (Array.getElem?_eq_some_iff.1 hq).1, fun i hi => ?_⟩
        have hO' := hO
        rw [e] at hO'
        rw [World.ownsRow.cellAt hO' i (by omega), List.getElem?_map, List.getElem?_eq_getElem hi, List.getD_eq_getElem?_getD, List.getElem?_eq_getElem hi]
        rfl
theorem take_one {α : Type} (l : List α) (k : Nat) (d : α) (h : k < l.length) : l.take (k + 1) = l.take k ++ [l.getD k d] := by
  rw [List.take_succ_eq_append_getElem h, List.getD_eq_getElem?_getD, List.getElem?_eq_getElem h]
  rfl

set_option maxHeartbeats 1000000 in
theorem seq_all (b1 b2 T P Bf base bs g n : Nat) (mo : Option Nat) (ks : Nat → Nat) (w0 w : World) (hPl : PlIs w0 P Bf base n mo ks) (h0 : Below w0.heap.size w0 w) (hbs : w0.heap.size ≤ bs) (hT0 : w0.heap.size ≤ T) (hbw : bs ≤ w.heap.size) (hg : g ≤ 4) (hn : n ≤ 1024)
    (h1 : w.heap[b1]? = some (.cells #[.pointer (some ⟨P, 0, none⟩)] 27 (0, 0))) (h2 : w.heap[b2]? = some (.cells (refC g).toArray 33 (0, 0))) (hT : Got w T bs []) :
    Calls Yba.prog 12 #[.func (.func 9) #[] #[.pointer (some ⟨T, 0, none⟩)], .pointer (some ⟨b1, 0, none⟩), .pointer (some ⟨b2, 0, none⟩)] w fun e w' => e = .returned (.tuple #[]) ∧ Got w' T bs (ix ks g n) ∧ Keep T bs w w' := by
  obtain ⟨hP, hF, hM⟩ := hPl
  have hPw := (h0.block P (Array.getElem?_eq_some_iff.1 hP).1).trans hP
  have hFw := hF.of_block (h0.block Bf hF.lt)
  have cP0 := cell_of_row w P 0 _ _ _ hPw
  have c1 := cell_of_row w b1 0 _ _ _ h1
  have c20 := cell_of_row w b2 0 _ _ _ h2
  have c21 := cell_of_row w b2 1 _ _ _ h2
  have c22 := cell_of_row w b2 2 _ _ _ h2
  simp only [refC, List.getElem?_toArray, List.getElem?_cons_zero, List.getElem?_cons_succ] at c20 c21 c22
  cases hix : ix ks g n with
  | nil =>
    have hlk : ∀ m, (Instr.lookup 39 (.map (some Bf)) (.agg #[.string ⟨#[80, 111, 100]⟩, .string ⟨#[110, 115]⟩, .string (nm g)]) true).run Yba.prog (w.drewN m) = .ok (.tuple #[.int .i64 0, .bool false]) (w.drewN m) := fun m => by
      have := (hFw.of_block (w' := w.drewN m) rfl).look_ok Yba.underlying39 (zero3 _) (g := g) hg
      rw [show ff ks n g = none by unfold ff; rw [hix]; rfl] at this
      exact this
    clear hix
    go_enter Yba.func12, Yba.ntmps12
    go_upto_region 0 with fail
    go_quiet (fail)
    go_wp2
    refine bodyPost_ret (results_none rfl _ _ _) rfl ?_
    exact ⟨rfl, hT, (Keep.refl _ _ _).drewN _⟩
  | cons i0 r0 =>
    have hlk : ∀ m, (Instr.lookup 39 (.map (some Bf)) (.agg #[.string ⟨#[80, 111, 100]⟩, .string ⟨#[110, 115]⟩, .string (nm g)]) true).run Yba.prog (w.drewN m) = .ok (.tuple #[.int .i64 (i0 : Int), .bool true]) (w.drewN m) := fun m => by
      have := (hFw.of_block (w' := w.drewN m) rfl).look_ok Yba.underlying39 (zero3 _) (g := g) hg
      rw [show ff ks n g = some (.int .i64 (i0 : Int)) by unfold ff; rw [hix]; rfl] at this
      exact this
    have HIX : Hid (ix ks g n = i0 :: r0) := hix
    clear hix
    go_enter Yba.func12, Yba.ntmps12
    go_upto_region 0 with fail
    go_quiet (fail)
    go_wp2_with (first
      | (go_at_call 9; refine (yield_all i0 T bs [] _ (by exact hT) (by simp) (by exact hbw)).mono ?_; rintro e w1 ⟨rfl, hG1, hK1'⟩; refine Hid.out ?_)
      | fail)
    unfold Hid
    have hK1 : Keep T bs w w1 := hK1'
    have hTb : ∃ v, w.heap[T]? = some (.cells #[v] 24 (0, 0)) := by obtain ⟨v, h, _⟩ := hT; exact ⟨v, h⟩
    obtain ⟨vT, hTv⟩ := hTb
    have h0k : ∀ u, Keep T bs w u → Below w0.heap.size w0 u := fun u hu => ⟨hu.1.trans h0.os, hu.2.1.trans h0.tape, hu.2.2.1.trans h0.output, Nat.le_trans h0.size hu.2.2.2.1, fun b hb => (hu.2.2.2.2 b (by have := h0.size; omega) (by omega) (.inl (by omega))).trans (h0.block b hb)⟩
    have h01 := h0k w1 hK1
    have h11 : w1.heap[b1]? = some (.cells #[.pointer (some ⟨P, 0, none⟩)] 27 (0, 0)) := (hK1.2.2.2.2 b1 (Array.getElem?_eq_some_iff.1 h1).1 (fun e => by rw [e, hTv] at h1; simp at h1) (.inr (fun c fr e => by rw [h1] at e; simp at e))).trans h1
    have h21 : w1.heap[b2]? = some (.cells (refC g).toArray 33 (0, 0)) := (hK1.2.2.2.2 b2 (Array.getElem?_eq_some_iff.1 h2).1 (fun e => by rw [e, hTv] at h2; simp at h2) (.inr (fun c fr e => by rw [h2] at e; simp at e))).trans h2
    have hP1 := (h01.block P (Array.getElem?_eq_some_iff.1 hP).1).trans hP
    have d0 := cell_of_row w1 P 1 _ _ _ hP1
    have d1 := cell_of_row w1 b1 0 _ _ _ h11
    have d20 := cell_of_row w1 b2 0 _ _ _ h21
    have d21 := cell_of_row w1 b2 1 _ _ _ h21
    have d22 := cell_of_row w1 b2 2 _ _ _ h21
    simp only [refC, List.getElem?_toArray, List.getElem?_cons_zero, List.getElem?_cons_succ] at d20 d21 d22
    obtain ⟨ar, cr, hlr, hrow⟩ := more_look hM h01 hg
    rw [HIX.out] at hlr hrow
    unfold refV at hlr
    simp only [List.tail_cons] at hlr hrow
    have hrl : r0.length ≤ 1024 := by have := ix_len ks g n; rw [HIX.out] at this; simp at this; omega
    clear hlk c1 c20 c21 c22 cP0 hK1' hPw hFw hT h1 h2
    go_upto_region 2 with fail
    go_quiet (fail)
    go_wp2_with fail
    clear hlr d0 d1 d20 d21 d22 h11 h21 hP1 h01
    go_loopw [32] (fun i wr => ∃ m : Nat, m ≤ r0.length ∧ i = .int .i64 m ∧ Got wr T bs (i0 :: r0.take m) ∧ Keep T bs w wr) (fun i _ => r0.length - (intOf i).toNat)
    case atStart => exact ⟨0, by omega, rfl, hG1, hK1⟩
    case round =>
      clear hG1 hK1
      obtain ⟨m, hm, rfl, hG, hK⟩ := hrel
      by_cases hlt : m < r0.length
      · rcases hrow with hrow | ⟨br, rfl, hbr, hrow⟩
        · simp [hrow] at hlt
        have y0 := hrow m hlt
        have hbr' := h0k wr hK
        obtain ⟨x, hx⟩ : ∃ x, x = r0.getD m 0 := ⟨_, rfl⟩
        rw [← hx] at y0
        have HX : Hid (x = r0.getD m 0) := hx
        clear hx
        have x0 : wr.cell? ⟨br, m, none⟩ = some (.int .i64 (x : Int)) := (hbr'.cell (p := ⟨br, m, none⟩) hbr).trans y0
        clear y0 hbr'
        have hlt' : (m : Int) < (r0.length : Int) := by omega
        have hgl : (i0 :: r0.take m).length ≤ 100000 := by simp; omega
        have hbr2 : bs ≤ wr.heap.size := Nat.le_trans hbw hK.2.2.2.1
        go_wp2_with (first
          | (go_at_call 9; refine (yield_all x T bs _ _ hG hgl hbr2).mono ?_; rintro e w2 ⟨rfl, hG2, hK2⟩)
          | fail)
        go_roundw
        case rel =>
          refine ⟨m + 1, by omega, by go_num, ?_, hK.trans (by assumption)⟩
          rw [take_one r0 m 0 hlt, ← HX.out]
          simpa using (by assumption : Got _ T bs ((i0 :: r0.take m) ++ [x]))
        case measure => simp [intOf]; omega
      · have hm' : m = r0.length := by omega
        subst hm'
        rw [List.take_length] at hG
        have hlt' : ¬ (r0.length : Int) < (r0.length : Int) := by omega
        go_wp2
        go_end0
        exact ⟨rfl, hG, hK⟩

end Go.Proofs.Ybulkcryc
