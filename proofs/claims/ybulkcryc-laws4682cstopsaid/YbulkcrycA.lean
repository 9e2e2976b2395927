import Derived.Test.YbulkcrycRows
import Derived.WalkKit
import Derived.ProofKit
import Derived.Below
import Derived.Maps.OwnSet
import Derived.WideKeyEntry
import Derived.DeepKeys4
namespace Go.Proofs.Ybulkcryc
open Go.RowKit Go.ChangeMaps Go.MapKept
open Go.WideElems (Fit)
open Go.Maps (Keyed)

theorem laidOutP : laidOutB Yba.prog = true := by kernel_rfl
theorem law33 : WideMaps.KeyLaw Yba.prog 33 := deep_law_laid laidOutP (m := 3) (by omega) (of_decide_eq_true (by kernel_rfl)) (by kernel_rfl) (by kernel_rfl)
theorem keyed33 : Keyed Yba.prog 33 := Keyed.of_law law33

def nm : Nat → ByteArray
  | 0 => ⟨#[97]⟩
  | 1 => ⟨#[98]⟩
  | 2 => ⟨#[99]⟩
  | 3 => ⟨#[100]⟩
  | _ => ⟨#[101]⟩
def refV (g : Nat) : Value := .agg #[.string ⟨#[80, 111, 100]⟩, .string ⟨#[110, 115]⟩, .string (nm g)]
def klB (g : Nat) : List UInt8 := keyBytes [.string [80, 111, 100], .string [110, 115], .string (nm g).data.toList]
def kl (g : Nat) : Lit := .string (klB g)
theorem hkey : ∀ g, keyOf Yba.prog 33 (refV g) = some (kl g)
  | 0 => by kernel_rfl
  | 1 => by kernel_rfl
  | 2 => by kernel_rfl
  | 3 => by kernel_rfl
  | _ + 4 => by kernel_rfl
theorem klB_inj : ∀ g, g ≤ 4 → ∀ g', g' ≤ 4 → klB g = klB g' → g = g' := by decide +kernel
theorem kl_ne {g g' : Nat} (hg : g ≤ 4) (hg' : g' ≤ 4) (h : g ≠ g') : kl g ≠ kl g' := fun e => h (klB_inj g hg g' hg' (by simpa [kl] using e))
theorem kl_key (g : Nat) : WideAt.IsKeyLit (kl g) := by simp [kl, WideAt.IsKeyLit]

/-- What an element reads as: itself. -/
def RV (v : Value) : Option (DataW Value × List MemPlace) := some (.held v, [])

/-- Block b is a map keyed by references, of at most n entries: at reference g it holds f g. -/
def MapIs (w : World) (b n : Nat) (f : Nat → Option Value) : Prop :=
  ∃ D : DataW Value, w.ownsMap Yba.prog 33 RV b n D ∧ ∀ g, g ≤ 4 → Maps.has D (kl g) = (f g).isSome ∧ ∀ z, D.atKey (kl g) z = ((f g).map DataW.held).getD z

theorem MapIs_made (w : World) : MapIs (w.alloc (.map #[] 0)) w.heap.size 0 (fun _ => none) :=
  ⟨_, World.ownsMap_made _ _ _ _, fun _ _ => ⟨rfl, fun _ => rfl⟩⟩

theorem MapIs.lt {w : World} {b n : Nat} {f : Nat → Option Value} (h : MapIs w b n f) : b < w.heap.size := by
  obtain ⟨_, h, _⟩ := h
  exact h.lt
theorem MapIs.map {w : World} {b n : Nat} {f : Nat → Option Value} (h : MapIs w b n f) : ∃ es c, w.heap[b]? = some (.map es c) := by
  obtain ⟨_, ⟨es, c, h, _⟩, _⟩ := h
  exact ⟨es, c, h⟩
theorem MapIs.mono {w : World} {b n n' : Nat} {f : Nat → Option Value} (h : MapIs w b n f) (hn : n ≤ n') : MapIs w b n' f := by
  obtain ⟨D, h, r⟩ := h
  exact ⟨D, h.mono hn, r⟩
theorem MapIs.of_block {w w' : World} {b n : Nat} {f : Nat → Option Value} (h : MapIs w b n f) (hb : w'.heap[b]? = w.heap[b]?) : MapIs w' b n f := by
  obtain ⟨D, ⟨es, c, h1, r1⟩, r⟩ := h
  exact ⟨D, ⟨es, c, hb.trans h1, r1⟩, r⟩
theorem MapIs.congr {w : World} {b n : Nat} {f f' : Nat → Option Value} (h : MapIs w b n f) (hf : ∀ g, g ≤ 4 → f g = f' g) : MapIs w b n f' := by
  obtain ⟨D, h, r⟩ := h
  exact ⟨D, h, fun g hg => by rw [← hf g hg]; exact r g hg⟩

theorem getD_held (o : Option Value) (z : Value) : (o.map DataW.held).getD (DataW.held z) = (DataW.held (o.getD z) : DataW Value) := by cases o <;> rfl

/-- 'v, ok := m[k]'. -/
theorem MapIs.look_ok {w : World} {b n : Nat} {f : Nat → Option Value} (h : MapIs w b n f) {t e : TypeId} (ht : Yba.prog.underlying t = some (.map 33 e)) {z : Value} (hz : (zeroValue e).run Yba.prog w = .ok z w) {g : Nat} (hg : g ≤ 4) :
    (Instr.lookup t (.map (some b)) (refV g) true).run Yba.prog w = .ok (.tuple #[(f g).getD z, .bool (f g).isSome]) w := by
  obtain ⟨D, h, r⟩ := h
  obtain ⟨v, ps, hrun, hv⟩ := h.look_ok keyed33 ht hz (zd := .held z) (zp := []) rfl (hkey g)
  obtain ⟨r1, r2⟩ := r g hg
  rw [r2, getD_held] at hv
  simp only [RV, Option.some.injEq, Prod.mk.injEq, DataW.held.injEq] at hv
  rw [hrun, hv.1, r1]

/-- 'm[k]'. -/
theorem MapIs.look {w : World} {b n : Nat} {f : Nat → Option Value} (h : MapIs w b n f) {t e : TypeId} (ht : Yba.prog.underlying t = some (.map 33 e)) {z : Value} (hz : (zeroValue e).run Yba.prog w = .ok z w) {g : Nat} (hg : g ≤ 4) :
    (Instr.lookup t (.map (some b)) (refV g) false).run Yba.prog w = .ok ((f g).getD z) w := by
  obtain ⟨D, h, r⟩ := h
  obtain ⟨v, ps, hrun, hv⟩ := h.lookup keyed33 ht hz (zd := .held z) (zp := []) rfl (hkey g)
  obtain ⟨r1, r2⟩ := r g hg
  rw [r2, getD_held] at hv
  simp only [RV, Option.some.injEq, Prod.mk.injEq, DataW.held.injEq] at hv
  rw [hrun, hv.1]

def put (f : Nat → Option Value) (g : Nat) (v : Value) : Nat → Option Value := fun j => if j = g then some v else f j

/-- 'm[k] = v'. -/
theorem MapIs.update {w : World} {b n : Nat} {f : Nat → Option Value} (h : MapIs w b n f) {t e : TypeId} (ht : Yba.prog.underlying t = some (.map 33 e)) (hn : n < maxLen) {g : Nat} (hg : g ≤ 4) (v : Value) :
    ∃ w', (Instr.mapUpdate t (.map (some b)) (refV g) v).run Yba.prog w = .ok () w' ∧ MapIs w' b (n + 1) (put f g v) ∧ w.mapTurned w' b := by
  obtain ⟨D, h, r⟩ := h
  obtain ⟨w', hrun, hown, ht⟩ := h.store keyed33 ht hn (hkey g) (val := v) (d := .held v) (ps := []) rfl
  refine ⟨w', hrun, ⟨_, hown, fun j hj => ?_⟩, ht⟩
  unfold put
  by_cases hjg : j = g
  · subst hjg
    rw [if_pos rfl]
    exact ⟨Maps.has_put_same h.isMap (kl_key j) _, fun z => Maps.atKey_put_same h.isMap (kl_key j) _ _⟩
  · rw [if_neg hjg]
    have hne := kl_ne hj hg hjg
    exact ⟨(Maps.has_put_other hne _).trans (r j hj).1, fun z => (Maps.atKey_put_other hne _ _).trans ((r j hj).2 z)⟩

theorem pw_unique {α β : Type} (f : α → β) : ∀ l : List α, l.Pairwise (fun x y => f x ≠ f y) → ∀ x ∈ l, ∀ y ∈ l, f x = f y → x = y
  | [], _, x, hx, _, _, _ => by cases hx
  | a :: r, h, x, hx, y, hy, e => by
    rw [List.pairwise_cons] at h
    rcases List.mem_cons.1 hx with rfl | hx'
    · rcases List.mem_cons.1 hy with rfl | hy
      · rfl
      · exact absurd e (h.1 y hy)
    · rcases List.mem_cons.1 hy with rfl | hy
      · exact absurd e.symm (h.1 x hx')
      · exact pw_unique f r h.2 x hx' y hy e

/-- 'm[k] = append(m[k], ..)': the entry is taken hold of, and written later. -/
theorem MapIs.entry {w : World} {b n : Nat} {f : Nat → Option Value} (h : MapIs w b n f) {t e : TypeId} (ht : Yba.prog.underlying t = some (.map 33 e)) {z : Value} (hz : ∀ u : World, (zeroValue e).run Yba.prog u = .ok z u) (hn : n < maxLen) {g : Nat} (hg : g ≤ 4) :
    ∃ (st : Nat) (es1 : Array MapEntry) (c1 : Nat), (Instr.mapEntry t (.map (some b)) (refV g)).run Yba.prog w = .ok (.tuple #[(f g).getD z, goInt st]) (setBlock w b (.map es1 c1)) ∧
      ∀ (w2 : World) (v : Value), w2.heap[b]? = some (.map es1 c1) → ∃ es' c', (Instr.entryStore t (.map (some b)) (goInt st) v).run Yba.prog w2 = .ok () (setBlock w2 b (.map es' c')) ∧ MapIs (setBlock w2 b (.map es' c')) b (n + 1) (put f g v) := by
  have hL := h.look ht (hz w) hg
  have hU := fun v => h.update ht hn hg v
  obtain ⟨D, ⟨es, clock, hb, F, _, rfl⟩, r⟩ := h
  obtain ⟨v0, st, es1, c1, hrun, hv0, hst⟩ := WideElems.entry_then_store law33 ht hz hb F (hkey g)
  have hv : v0 = (f g).getD z := by
    rcases Maps.fit_look false keyed33 ht (hz w) hb F (hkey g) with ⟨hl, hno, _⟩ | ⟨e0, y, hm, hk, hl, _⟩
    · have e1 : (f g).getD z = z := by
        rw [hL] at hl
        simpa using hl
      rcases hv0 with ⟨e', hm', hk', _⟩ | ⟨_, hz'⟩
      · exact absurd hk' (hno e' hm')
      · rw [e1, hz']
    · have e1 : (f g).getD z = e0.val := by
        rw [hL] at hl
        simpa using hl
      rcases hv0 with ⟨e', hm', hk', hv'⟩ | ⟨hno, _⟩
      · have hap := Maps.fit_apart keyed33 F
        rw [List.pairwise_map] at hap
        have hrg : ∀ x ∈ es.toList, x.key = refV g → (WideElems.rg Yba.prog 33 RV x).1 = kl g := by
          intro x hx hxk
          obtain ⟨y, hy⟩ := F.reads x hx
          have := WideElems.rd_key hy
          rw [hxk, hkey g] at this
          simp only [WideElems.rg, hy, Option.getD_some]
          exact (Option.some.inj this).symm
        have := pw_unique (fun x => (WideElems.rg Yba.prog 33 RV x).1) es.toList hap e' hm' e0 hm ((hrg e' hm' hk').trans (hrg e0 hm hk).symm)
        rw [e1, hv', this]
      · exact absurd hk (hno e0 hm)
  refine ⟨st, es1, c1, by rw [← hv]; exact hrun, fun w2 v hw2 => ?_⟩
  obtain ⟨es', c', hr1, hr2⟩ := hst w2 v hw2
  refine ⟨es', c', hr1, ?_⟩
  obtain ⟨w', hr3, hM, _⟩ := hU v
  rw [hr2] at hr3
  obtain rfl : setBlock w b (.map es' c') = w' := by simpa using hr3
  exact hM.of_block ((heap_setBlock_same hw2 _).trans (heap_setBlock_same hb _).symm)

end Go.Proofs.Ybulkcryc
