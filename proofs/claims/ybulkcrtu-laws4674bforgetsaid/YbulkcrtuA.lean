import Derived.Test.YbulkcrtuK
import Derived.Maps.OwnSet
namespace Go.Proofs.Ybulkcrtu
open Go.RowKit Go.ChangeMaps Go.MapKept
open Go.Maps (Keyed)

theorem keyed69 : Keyed Yba.prog 69 := Maps.int_keyed Yba.underlying69
def Id (x : Int) : Prop := (Lit.int .u32 x).wf = true
theorem hkey {x : Int} (h : Id x) : keyOf Yba.prog 69 (.int .u32 x) = some (.int .u32 x) := Maps.keyOf_int_mk Yba.underlying69 h
theorem kl_key (x : Int) : WideAt.IsKeyLit (.int .u32 x) := by simp [WideAt.IsKeyLit]
theorem kl_ne {x y : Int} (h : x ≠ y) : (Lit.int .u32 x) ≠ (Lit.int .u32 y) := fun e => h (by simpa using e)

/-- What an element reads as: itself. -/
def RV (v : Value) : Option (DataW Value × List MemPlace) := some (.held v, [])

/-- Block b is a map keyed by numbers, of at most n entries, just sz: at x it holds f x. -/
def MapU (w : World) (b n sz : Nat) (f : Int → Option Value) : Prop :=
  ∃ D : DataW Value, w.ownsMap Yba.prog 69 RV b n D ∧ Maps.size D = sz ∧ ∀ x, Id x → Maps.has D (.int .u32 x) = (f x).isSome ∧ ∀ z, D.atKey (.int .u32 x) z = ((f x).map DataW.held).getD z

theorem MapU_made (w : World) : MapU (w.alloc (.map #[] 0)) w.heap.size 0 0 (fun _ => none) :=
  ⟨_, World.ownsMap_made _ _ _ _, rfl, fun _ _ => ⟨rfl, fun _ => rfl⟩⟩
theorem MapU.lt {w : World} {b n sz : Nat} {f : Int → Option Value} (h : MapU w b n sz f) : b < w.heap.size := by
  obtain ⟨_, h, _⟩ := h
  exact h.lt
theorem MapU.map {w : World} {b n sz : Nat} {f : Int → Option Value} (h : MapU w b n sz f) : ∃ es c, w.heap[b]? = some (.map es c) := by
  obtain ⟨_, ⟨es, c, h, _⟩, _⟩ := h
  exact ⟨es, c, h⟩
theorem MapU.mono {w : World} {b n n' sz : Nat} {f : Int → Option Value} (h : MapU w b n sz f) (hn : n ≤ n') : MapU w b n' sz f := by
  obtain ⟨D, h, r⟩ := h
  exact ⟨D, h.mono hn, r⟩
theorem MapU.of_block {w w' : World} {b n sz : Nat} {f : Int → Option Value} (h : MapU w b n sz f) (hb : w'.heap[b]? = w.heap[b]?) : MapU w' b n sz f := by
  obtain ⟨D, ⟨es, c, h1, r1⟩, r⟩ := h
  exact ⟨D, ⟨es, c, hb.trans h1, r1⟩, r⟩
theorem MapU.size_le {w : World} {b n sz : Nat} {f : Int → Option Value} (h : MapU w b n sz f) : sz ≤ n := by
  obtain ⟨D, h, rfl, _⟩ := h
  exact h.size_le
theorem getD_held (o : Option Value) (z : Value) : (o.map DataW.held).getD (DataW.held z) = (DataW.held (o.getD z) : DataW Value) := by cases o <;> rfl

theorem MapU.look_ok {w : World} {b n sz : Nat} {f : Int → Option Value} (h : MapU w b n sz f) {t e : TypeId} (ht : Yba.prog.underlying t = some (.map 69 e)) {z : Value} (hz : (zeroValue e).run Yba.prog w = .ok z w) {x : Int} (hx : Id x) :
    (Instr.lookup t (.map (some b)) (.int .u32 x) true).run Yba.prog w = .ok (.tuple #[(f x).getD z, .bool (f x).isSome]) w := by
  obtain ⟨D, h, _, r⟩ := h
  obtain ⟨v, ps, hrun, hv⟩ := h.look_ok keyed69 ht hz (zd := .held z) (zp := []) rfl (hkey hx)
  obtain ⟨r1, r2⟩ := r x hx
  rw [r2, getD_held] at hv
  simp only [RV, Option.some.injEq, Prod.mk.injEq, DataW.held.injEq] at hv
  rw [hrun, hv.1, r1]
theorem MapU.look {w : World} {b n sz : Nat} {f : Int → Option Value} (h : MapU w b n sz f) {t e : TypeId} (ht : Yba.prog.underlying t = some (.map 69 e)) {z : Value} (hz : (zeroValue e).run Yba.prog w = .ok z w) {x : Int} (hx : Id x) :
    (Instr.lookup t (.map (some b)) (.int .u32 x) false).run Yba.prog w = .ok ((f x).getD z) w := by
  obtain ⟨D, h, _, r⟩ := h
  obtain ⟨v, ps, hrun, hv⟩ := h.lookup keyed69 ht hz (zd := .held z) (zp := []) rfl (hkey hx)
  obtain ⟨r1, r2⟩ := r x hx
  rw [r2, getD_held] at hv
  simp only [RV, Option.some.injEq, Prod.mk.injEq, DataW.held.injEq] at hv
  rw [hrun, hv.1]
theorem MapU.len {w : World} {b n sz : Nat} {f : Int → Option Value} (h : MapU w b n sz f) {t e : TypeId} (ht : Yba.prog.underlying t = some (.map 69 e)) (ty : TypeId) :
    (Builtin.len_ #[t] ty #[.map (some b)]).run Yba.prog w = .ok (.int .i64 (sz : Int)) w := by
  obtain ⟨D, h, rfl, _⟩ := h
  exact h.len ht ty

def putU (f : Int → Option Value) (g : Int) (v : Value) : Int → Option Value := fun j => if j = g then some v else f j
def delU (f : Int → Option Value) (g : Int) : Int → Option Value := fun j => if j = g then none else f j

theorem MapU.update {w : World} {b n sz : Nat} {f : Int → Option Value} (h : MapU w b n sz f) {t e : TypeId} (ht : Yba.prog.underlying t = some (.map 69 e)) (hn : n < maxLen) {g : Int} (hg : Id g) (v : Value) (hno : f g = none) :
    ∃ w', (Instr.mapUpdate t (.map (some b)) (.int .u32 g) v).run Yba.prog w = .ok () w' ∧ MapU w' b (n + 1) (sz + 1) (putU f g v) ∧ w.mapTurned w' b := by
  obtain ⟨D, h, rfl, r⟩ := h
  obtain ⟨w', hrun, hown, ht⟩ := h.store keyed69 ht hn (hkey hg) (val := v) (d := .held v) (ps := []) rfl
  refine ⟨w', hrun, ⟨_, hown, ?_, fun j hj => ?_⟩, ht⟩
  · rw [Maps.size_put (h.tidy keyed69), (r g hg).1, hno]
    rfl
  · unfold putU
    by_cases hjg : j = g
    · subst hjg
      rw [if_pos rfl]
      exact ⟨Maps.has_put_same h.isMap (kl_key j) _, fun z => Maps.atKey_put_same h.isMap (kl_key j) _ _⟩
    · rw [if_neg hjg]
      have hne := kl_ne hjg
      exact ⟨(Maps.has_put_other hne _).trans (r j hj).1, fun z => (Maps.atKey_put_other hne _ _).trans ((r j hj).2 z)⟩
theorem MapU.drop {w : World} {b n sz : Nat} {f : Int → Option Value} (h : MapU w b n sz f) {t e : TypeId} (ht : Yba.prog.underlying t = some (.map 69 e)) {g : Int} (hg : Id g) (hyes : (f g).isSome = true) (ty : TypeId) :
    ∃ w', (Builtin.delete_ #[t, 69] ty #[.map (some b), .int .u32 g]).run Yba.prog w = .ok (.tuple #[]) w' ∧ MapU w' b n (sz - 1) (delU f g) ∧ w.mapTurned w' b := by
  obtain ⟨D, h, rfl, r⟩ := h
  obtain ⟨w', hrun, hown, ht⟩ := h.drop keyed69 ht (hkey hg) ty
  refine ⟨w', hrun, ⟨_, hown, ?_, fun j hj => ?_⟩, ht⟩
  · have := Maps.size_del (k := .int .u32 g) (h.tidy keyed69)
    rw [(r g hg).1, hyes] at this
    simp at this
    omega
  · unfold delU
    by_cases hjg : j = g
    · subst hjg
      rw [if_pos rfl]
      exact ⟨Maps.has_del_same, fun z => Maps.atKey_del_same _⟩
    · rw [if_neg hjg]
      have hne := kl_ne hjg
      exact ⟨(Maps.has_del_other hne).trans (r j hj).1, fun z => (Maps.atKey_del_other hne _).trans ((r j hj).2 z)⟩

end Go.Proofs.Ybulkcrtu
