import Derived.Test.YbulkcrtuSQ
namespace Go.Proofs.Ybulkcrtu
open Go.RowKit Go.ChangeMaps Go.MapKept

theorem rem3N (x y : Operand) (m n : Nat) (h : 0 < n) : Bin .rem 3 x y (.int .i64 (m : Int)) (.int .i64 (n : Int)) (.int .i64 ((m % n : Nat) : Int)) := by
  have := rem3 x y (m : Int) (n : Int) (by omega) (by omega)
  rwa [← Int.natCast_emod] at this
theorem add3N (x y : Operand) (m : Nat) (h : m ≤ 1000000) : Bin .add 3 x y (.int .i64 (m : Int)) (.int .i64 1) (.int .i64 ((m + 1 : Nat) : Int)) := add3 x y (m : Int) 1 (by omega) (by omega)
theorem mod_one (x n : Nat) (h : x < 2 * n) : x % n = if x < n then x else x - n := by
  by_cases c : x < n
  · rw [if_pos c, Nat.mod_eq_of_lt c]
  · rw [if_neg c, Nat.mod_eq_sub_mod (by omega), Nat.mod_eq_of_lt (by omega)]
theorem dist_hit {n i j t : Nat} (hi : i < n) (hj : j < n) (h1 : 1 ≤ t) (h2 : t ≤ dist n i j) : (i + t) % n = j ↔ t = dist n i j := by
  unfold dist at h2 ⊢
  rw [mod_one (i + t) n (by split at h2 <;> omega)]
  split at h2
  · rename_i c; rw [if_pos c]; split <;> omega
  · rename_i c; rw [if_neg c]; split <;> omega
theorem dist_pos {n i j : Nat} (hi : i < n) : 1 ≤ dist n i j := by unfold dist; split <;> omega
theorem dist_le {n i j : Nat} (hi : i < n) (hj : j < n) : dist n i j ≤ n := by unfold dist; split <;> omega
theorem next_mod (n i t : Nat) : ((i + t) % n + 1) % n = (i + (t + 1)) % n := by
  rw [← Nat.add_assoc, Nat.add_mod ((i + t) % n) 1 n, Nat.mod_mod, ← Nat.add_mod]
theorem all_succ (p : Nat → Bool) (t : Nat) : (List.range (t + 1)).all p = ((List.range t).all p && p t) := by
  rw [List.range_succ, List.all_append]
  simp
theorem all_false {p : Nat → Bool} {t d : Nat} (h : (List.range t).all p = false) (htd : t ≤ d) : (List.range d).all p = false := by
  rw [List.all_eq_false] at h ⊢
  obtain ⟨x, hx, hp⟩ := h
  exact ⟨x, List.mem_range.2 (by have := List.mem_range.1 hx; omega), hp⟩

/-! ### The routes -/
def routeG (rs : Nat → Nat × Nat) (i : Nat) : Value := (routeC (rs (i / 36)).1 ((rs (i / 36)).2 : Nat)).getD (i % 36) undef
def Routes (w : World) (b n : Nat) (rs : Nat → Nat × Nat) : Prop := Row w b 55 (36 * n) (routeG rs)
theorem routeG_at (rs : Nat → Nat × Nat) (i j : Nat) (hj : j < 36) : routeG rs (0 + i * 36 + j) = (routeC (rs i).1 ((rs i).2 : Nat)).getD j undef := by
  unfold routeG
  have e1 : (0 + i * 36 + j) / 36 = i := by omega
  have e2 : (0 + i * 36 + j) % 36 = j := by omega
  rw [e1, e2]
theorem Routes.key {w : World} {b n : Nat} {rs : Nat → Nat × Nat} (h : Routes w b n rs) {i : Nat} (hi : i < n) : (Instr.loadAt 40 (.pointer (some ⟨b, 0 + i * 36, none⟩))).run Yba.prog w = .ok (keyV (rs i).1) w :=
  Row.load h (keyC (rs i).1) Yba.underlying40 rfl info40 fun j v hj => by
    have := lt_cells hj
    rw [keyC_len] at this
    refine ⟨by omega, ?_⟩
    rw [routeG_at rs i j (by omega)]
    have e := getD_mid [] (keyC (rs i).1) (apC ((rs i).2 : Nat)) hj
    rw [List.nil_append, List.length_nil, Nat.zero_add] at e
    exact e
theorem Routes.route {w : World} {b n : Nat} {rs : Nat → Nat × Nat} (h : Routes w b n rs) {i : Nat} (hi : i < n) : (Instr.loadAt 55 (.pointer (some ⟨b, 0 + i * 36, none⟩))).run Yba.prog w = .ok (routeV (rs i).1 ((rs i).2 : Nat)) w :=
  Row.load h (routeC (rs i).1 ((rs i).2 : Nat)) Yba.underlying55 rfl (by rw [routeC_len]; exact info55) fun j v hj => by
    have := lt_cells hj
    rw [routeC_len] at this
    refine ⟨by omega, ?_⟩
    rw [routeG_at rs i j (by omega)]
    exact getD_cells hj
theorem row_pair {w : World} {b t a c : Nat} (h : Row w b t 64 (fun i => (pairC a c).getD i undef)) : (Instr.loadAt 65 (.pointer (some ⟨b, 0, none⟩))).run Yba.prog w = .ok (pairV a c) w :=
  h.load (pairC a c) Yba.underlying65 rfl (by rw [pairC_len]; exact info65) fun j v hj => ⟨by have := lt_cells hj; rw [pairC_len] at this; omega, by rw [Nat.zero_add]; exact getD_cells hj⟩
theorem build65 (a b : Nat) (w : World) : (Instr.build 65 #[(0, keyV a), (1, keyV b)]).run Yba.prog w = .ok (pairV a b) w := by kernel_rfl
theorem cell_chg {w w' : World} {b o c : Nat} {v : Value} (h : w.cell? ⟨b, o, none⟩ = some v) (hc : Chg (· = c) w w') (hm : ∃ es k, w.heap[c]? = some (.map es k)) : w'.cell? ⟨b, o, none⟩ = some v := by
  have hne : ¬ b = c := by
    rintro rfl
    obtain ⟨es, k, hm⟩ := hm
    simp [World.cell?, hm] at h
  exact (World.cell?_of_block (hc.block b (World.block_lt_of_cell? w _ h) hne)).trans h
theorem Ints.chg {w w' : World} {v : Value} {xs : List Int} {c : Nat} (h : Ints w v xs) (hc : Chg (· = c) w w') (hm : ∃ es k, w.heap[c]? = some (.map es k)) : Ints w' v xs := by
  obtain ⟨p, cc, h1, h2⟩ := h
  refine ⟨p, cc, h1, fun k x hk => ?_⟩
  obtain ⟨b, o, h3, h4⟩ := h2 k x hk
  exact ⟨b, o, h3, cell_chg h4 hc hm⟩
theorem LinkM.map {w : World} {b n base : Nat} {ps : List (Nat × Nat)} {fr : Int} (h : LinkM w b n base ps fr) : ∃ es c, w.heap[b]? = some (.map es c) := by
  obtain ⟨m, h, _⟩ := h
  exact h.map
theorem LinkM.chg {w w' : World} {b n base : Nat} {ps : List (Nat × Nat)} {fr : Int} (h : LinkM w b n base ps fr) (hc : Chg (fun _ => False) w w') : LinkM w' b n base ps fr := by
  obtain ⟨m, h1, h2, h3⟩ := h
  exact ⟨m, h1.chg hc id, h2, fun q v h4 h5 h6 => owns_keep (h3 q v h4 h5 h6) hc fun _ _ => id⟩
theorem zero66 (w : World) : (zeroValue 66).run Yba.prog w = .ok (.slice none 0 0) w := by kernel_rfl
theorem LinkM.look {w : World} {b n base : Nat} {ps : List (Nat × Nat)} {fr : Int} (h : LinkM w b n base ps fr) {x y : Nat} (hx : x ≤ 255) (hy : y ≤ 255) :
    ∃ v, (Instr.lookup 44 (.map (some b)) (pairV x y) false).run Yba.prog w = .ok v w ∧ ((x, y) ∈ ps → w.ownsRow base 37 4 v 1 (apC fr)) ∧ ((x, y) ∉ ps → v = .slice none 0 0) := by
  obtain ⟨m, h1, h2, h3⟩ := h
  have hl := h1.look Yba.underlying44 (zero66 w) (x := (x, y)) ⟨hx, hy⟩
  refine ⟨_, hl, fun hm => ?_, fun hm => ?_⟩
  · have := (h2 (x, y) hx hy).2 hm
    obtain ⟨v, hv⟩ := Option.isSome_iff_exists.1 this
    rw [hv]
    exact h3 (x, y) v hx hy hv
  · cases hv : m (x, y) with
    | none => rfl
    | some v => exact absurd ((h2 (x, y) hx hy).1 (by rw [hv]; rfl)) hm
theorem LinkM.mono {w : World} {b n n' base : Nat} {ps : List (Nat × Nat)} {fr : Int} (h : LinkM w b n base ps fr) (hn : n ≤ n') : LinkM w b n' base ps fr := by
  obtain ⟨m, h1, h2⟩ := h
  exact ⟨m, h1.mono hn, h2⟩
theorem LinkM.entry {w : World} {b n base : Nat} {ps : List (Nat × Nat)} {fr : Int} (h : LinkM w b n base ps fr) (hn : n < 100000) {x y : Nat} (hx : x ≤ 255) (hy : y ≤ 255) (hno : (x, y) ∉ ps) :
    ∃ (st : Nat) (w1 : World), (Instr.mapEntry 44 (.map (some b)) (pairV x y)).run Yba.prog w = .ok (.tuple #[.slice none 0 0, goInt st]) w1 ∧ Up w w1 b ∧
      ∀ (w2 : World) (v : Value), Chg (fun _ => False) w1 w2 → w2.ownsRow base 37 4 v 1 (apC fr) → ∃ w3, (Instr.entryStore 44 (.map (some b)) (goInt st) v).run Yba.prog w2 = .ok () w3 ∧ Up w2 w3 b ∧ LinkM w3 b (n + 1) base (ps ++ [(x, y)]) fr := by
  obtain ⟨m, h1, h2, h3⟩ := h
  have hnone : m (x, y) = none := by
    cases hv : m (x, y) with
    | none => rfl
    | some v => exact absurd ((h2 (x, y) hx hy).1 (by rw [hv]; rfl)) hno
  have hm1 := h1.map
  obtain ⟨st, w1, hr, hu, hmp, hst⟩ := h1.entry Yba.underlying44 zero66 (by unfold maxLen; omega) (g := (x, y)) ⟨hx, hy⟩
  rw [hnone] at hr hst
  refine ⟨st, w1, hr, hu, fun w2 v hc hv => ?_⟩
  have hbl : b < w1.heap.size := by rw [hu.size]; exact h1.lt
  obtain ⟨w3, hr3, hu3, hM3⟩ := hst w2 v (hc.block b hbl id)
  have hm2 : ∃ es k, w2.heap[b]? = some (.map es k) := by
    obtain ⟨es, k, he⟩ := hmp
    exact ⟨es, k, (hc.block b hbl id).trans he⟩
  refine ⟨w3, hr3, hu3, putK m (x, y) v, ?_, fun q hq1 hq2 => ?_, fun q u hq1 hq2 hq => ?_⟩
  · rw [List.length_append]
    exact hM3
  · unfold putK
    by_cases e : q = (x, y)
    · rw [if_pos e]; simp [e]
    · rw [if_neg e, h2 q hq1 hq2]; simp [e]
  · have keep : ∀ z, w2.ownsRow base 37 4 z 1 (apC fr) → w3.ownsRow base 37 4 z 1 (apC fr) := fun z hz => owns_keep hz (Chg.of_up (X := (· = b)) hu3 rfl) fun c hc' e => map_ne_own hz hm2 (by rw [hc', e])
    unfold putK at hq
    by_cases e : q = (x, y)
    · rw [if_pos e] at hq
      obtain rfl := Option.some.inj hq
      exact keep _ hv
    · rw [if_neg e] at hq
      have := h3 q u hq1 hq2 hq
      exact keep _ (owns_keep (owns_keep this (Chg.of_up (X := (· = b)) hu rfl) fun c hc' e => map_ne_own this hm1 (by rw [hc', e])) hc fun _ _ => id)
end Go.Proofs.Ybulkcrtu
