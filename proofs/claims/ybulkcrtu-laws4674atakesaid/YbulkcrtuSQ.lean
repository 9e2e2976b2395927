import Derived.Test.YbulkcrtuSP
namespace Go.Proofs.Ybulkcrtu
open Go.RowKit Go.ChangeMaps Go.MapKept

/-! ### What take computes -/
abbrev Ports := Nat → Option Int
def putP (f : Ports) (k : Nat) (v : Int) : Ports := fun j => if j = k then some v else f j
/-- What stays as it is. -/
structure Ctx where
  lo : Nat
  wd : Nat
  placing : Bool
  dead : Nat → Bool
  self : Int
  from' : Int
structure TS where
  f : Ports
  g : Ports
  u : Ports
  kept : List Nat
def stepR (c : Ctx) (s : TS) (i k a : Nat) : TS :=
  if c.placing = true ∧ inR c.lo c.wd k = true then s
  else if c.dead a = true then (if inR c.lo c.wd k = true then { s with u := putP s.u k a } else s)
  else if s.f k = none ∧ ((a : Int) ≠ c.self ∨ c.from' = c.self) then { s with kept := s.kept ++ [i], f := putP s.f k a, g := putP s.g k c.from' }
  else if s.f k = some (a : Int) ∧ c.from' = a then { s with kept := s.kept ++ [i], g := putP s.g k c.from' }
  else { s with kept := s.kept ++ [i] }
/-- The routes are taken one by one: the first m of them. -/
def runR (c : Ctx) (rs : Nat → Nat × Nat) (s : TS) : Nat → TS
  | 0 => s
  | m + 1 => stepR c (runR c rs s m) m (rs m).1 (rs m).2
/-- The indices of the node's own keys among the first m. -/
def ownIdx (os : List Bool) (m : Nat) : List Int := ((List.range m).filter fun i => os.getD i false).map fun (i : Nat) => (i : Int)
def vouchF (os : List Bool) (n : Nat) (whole : Bool) (i : Nat) : Bool := !(decide (i + 1 = n) && !whole) && (ownIdx os n).any fun o => near (i : Int) o (n : Int) whole
/-- How many steps up from i to j. -/
def dist (n i j : Nat) : Nat := if i < j then j - i else n - i + j
def spanF (v : Nat → Bool) (n i j : Nat) : Bool := (List.range (dist n i j)).all fun t => v ((i + t) % n)
def pairAt (kept : List Nat) (key : Nat → Nat) (m : Nat) : Nat × Nat := (key (kept.getD m 0), key (kept.getD ((m + 1) % kept.length) 0))
def stepL (v : Nat → Bool) (n : Nat) (whole : Bool) (kept : List Nat) (key : Nat → Nat) (ps : List (Nat × Nat)) (m : Nat) : List (Nat × Nat) :=
  if m + 1 = kept.length ∧ whole = false then ps
  else if spanF v n (kept.getD m 0) (kept.getD ((m + 1) % kept.length) 0) = true ∧ pairAt kept key m ∉ ps then ps ++ [pairAt kept key m] else ps
def runL (v : Nat → Bool) (n : Nat) (whole : Bool) (kept : List Nat) (key : Nat → Nat) : Nat → List (Nat × Nat)
  | 0 => []
  | m + 1 => stepL v n whole kept key (runL v n whole kept key m) m

theorem stepR_kept (c : Ctx) (s : TS) (i k a : Nat) : (stepR c s i k a).kept = s.kept ∨ (stepR c s i k a).kept = s.kept ++ [i] := by
  unfold stepR
  repeat' split
  all_goals first | exact .inl rfl | exact .inr rfl
theorem runR_kept (c : Ctx) (rs : Nat → Nat × Nat) (s : TS) (hs : s.kept = []) : ∀ m, (∀ i ∈ (runR c rs s m).kept, i < m) ∧ (runR c rs s m).kept.length ≤ m
  | 0 => by simp [runR, hs]
  | m + 1 => by
    obtain ⟨h1, h2⟩ := runR_kept c rs s hs m
    have key : ∀ l : List Nat, l = (runR c rs s m).kept ∨ l = (runR c rs s m).kept ++ [m] → (∀ i ∈ l, i < m + 1) ∧ l.length ≤ m + 1 := by
      rintro l (rfl | rfl)
      · exact ⟨fun i hi => by have := h1 i hi; omega, by omega⟩
      · refine ⟨fun i hi => ?_, by simp; omega⟩
        rcases List.mem_append.1 hi with hi | hi
        · have := h1 i hi; omega
        · simp at hi; omega
    exact key _ (stepR_kept c (runR c rs s m) m (rs m).1 (rs m).2)

/-! ### How many keys a map has -/
def cntP (f : Ports) : Nat → Nat
  | 0 => 0
  | m + 1 => cntP f m + (bif (f m).isSome then 1 else 0)
theorem cntP_other (f : Ports) (k : Nat) (v : Int) : ∀ m, m ≤ k → cntP (putP f k v) m = cntP f m
  | 0, _ => rfl
  | m + 1, h => by
    unfold cntP
    rw [cntP_other f k v m (by omega)]
    have : putP f k v m = f m := by unfold putP; rw [if_neg (by omega)]
    rw [this]
theorem cntP_put (f : Ports) (k : Nat) (v : Int) : ∀ m, k < m → cntP (putP f k v) m = if (f k).isSome = true then cntP f m else cntP f m + 1
  | 0, h => by omega
  | m + 1, h => by
    unfold cntP
    by_cases e : k = m
    · subst e
      rw [cntP_other f k v k (Nat.le_refl _)]
      have : putP f k v k = some v := by unfold putP; rw [if_pos rfl]
      rw [this]
      cases f k <;> simp
    · rw [cntP_put f k v m (by omega)]
      have : putP f k v m = f m := by unfold putP; rw [if_neg (by omega)]
      rw [this]
      split <;> omega
/-- Block b is the map f. -/
def MapP (w : World) (b n : Nat) (f : Ports) : Prop := MapK K40 w b n (cntP f 256) (fun k => (f k).map apV)
section
variable {w w' : World} {b n : Nat} {f : Ports}
theorem zero37 (w : World) : (zeroValue 37).run Yba.prog w = .ok (apV 0) w := by kernel_rfl
theorem MapP.update (h : MapP w b n f) (hn : n < 100000) {k : Nat} (hk : k ≤ 255) (v : Int) :
    ∃ w', (Instr.mapUpdate 43 (.map (some b)) (keyV k) (apV v)).run Yba.prog w = .ok () w' ∧ Up w w' b ∧ MapP w' b (n + 1) (putP f k v) := by
  obtain ⟨w', h1, h2, h3⟩ := MapK.update h Yba.underlying43 (by unfold maxLen; omega) (g := k) hk (apV v)
  refine ⟨w', h1, h2, ?_⟩
  unfold MapP
  rw [cntP_put f k v 256 (by omega)]
  have e1 : ((f k).map apV).isSome = (f k).isSome := by cases f k <;> rfl
  rw [e1] at h3
  have e2 : (fun j => (putP f k v j).map apV) = putK (fun j => (f j).map apV) k (apV v) := by
    funext j
    unfold putP putK
    split <;> rfl
  rw [e2]
  exact h3
theorem MapP.look (h : MapP w b n f) {k : Nat} (hk : k ≤ 255) : (Instr.lookup 43 (.map (some b)) (keyV k) true).run Yba.prog w = .ok (.tuple #[apV ((f k).getD 0), .bool (f k).isSome]) w := by
  have := MapK.look_ok h Yba.underlying43 (zero37 w) (x := k) hk
  have e1 : ((f k).map apV).getD (apV 0) = apV ((f k).getD 0) := by cases f k <;> rfl
  have e2 : ((f k).map apV).isSome = (f k).isSome := by cases f k <;> rfl
  rw [e1, e2] at this
  exact this
theorem MapP.entry (h : MapP w b n f) (hn : n < 100000) {k : Nat} (hk : k ≤ 255) :
    ∃ (st : Nat) (w1 : World), (Instr.mapEntry 43 (.map (some b)) (keyV k)).run Yba.prog w = .ok (.tuple #[apV ((f k).getD 0), goInt st]) w1 ∧ Up w w1 b ∧
      ∀ (w2 : World) (v : Int), w2.heap[b]? = w1.heap[b]? → ∃ w3, (Instr.entryStore 43 (.map (some b)) (goInt st) (apV v)).run Yba.prog w2 = .ok () w3 ∧ Up w2 w3 b ∧ MapP w3 b (n + 1) (putP f k v) := by
  obtain ⟨st, w1, h1, h2, _, h3⟩ := MapK.entry h Yba.underlying43 zero37 (by unfold maxLen; omega) (g := k) hk
  have e1 : ((f k).map apV).getD (apV 0) = apV ((f k).getD 0) := by cases f k <;> rfl
  rw [e1] at h1
  refine ⟨st, w1, h1, h2, fun w2 v hw => ?_⟩
  obtain ⟨w3, h4, h5, h6⟩ := h3 w2 (apV v) hw
  refine ⟨w3, h4, h5, ?_⟩
  unfold MapP
  rw [cntP_put f k v 256 (by omega)]
  have e1 : ((f k).map apV).isSome = (f k).isSome := by cases f k <;> rfl
  rw [e1] at h6
  have e2 : (fun j => (putP f k v j).map apV) = putK (fun j => (f j).map apV) k (apV v) := by
    funext j
    unfold putP putK
    split <;> rfl
  rw [e2]
  exact h6
theorem MapP.up (h : MapP w b n f) {c : Nat} (hu : Up w w' c) (hc : b ≠ c) : MapP w' b n f := MapK.up h hu hc
theorem MapP.chg (h : MapP w b n f) {X : Nat → Prop} (hc : Chg X w w') (hx : ¬ X b) : MapP w' b n f := MapK.chg h hc hx
theorem MapP.lt (h : MapP w b n f) : b < w.heap.size := MapK.lt h
theorem MapP.map (h : MapP w b n f) : ∃ es c, w.heap[b]? = some (.map es c) := MapK.map h
theorem MapP.mono {n' : Nat} (h : MapP w b n f) (hn : n ≤ n') : MapP w b n' f := MapK.mono h hn
end
theorem Chg.comp {X Y : Nat → Prop} {a b c : World} (h : Chg X a b) (k : Chg Y b c) (hy : ∀ i, i < a.heap.size → Y i → X i) : Chg X a c :=
  ⟨k.os.trans h.os, k.tape.trans h.tape, k.output.trans h.output, Nat.le_trans h.size k.size, fun i hi hx => (k.block i (Nat.lt_of_lt_of_le hi h.size) fun e => hx (hy i hi e)).trans (h.block i hi hx)⟩
/-- The pairs shown to be neighbours: each with the one address. -/
def LinkM (w : World) (b n base : Nat) (ps : List (Nat × Nat)) (fr : Int) : Prop :=
  ∃ m : Nat × Nat → Option Value, MapK K65 w b n ps.length m ∧ (∀ q, q.1 ≤ 255 → q.2 ≤ 255 → ((m q).isSome = true ↔ q ∈ ps)) ∧ ∀ q v, q.1 ≤ 255 → q.2 ≤ 255 → m q = some v → w.ownsRow base 37 4 v 1 (apC fr)
end Go.Proofs.Ybulkcrtu
