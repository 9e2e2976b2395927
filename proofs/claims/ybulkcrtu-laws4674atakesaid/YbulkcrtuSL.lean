import Derived.Test.YbulkcrtuSK
import Derived.Maps.OwnSet
import Derived.WideKeyEntry
import Derived.DeepKeys4
namespace Go.Proofs.Ybulkcrtu
open Go.RowKit Go.ChangeMaps Go.MapKept
open Go.WideElems (Fit)
open Go.Maps (Keyed)

theorem laidOutP : laidOutB Yba.prog = true := by kernel_rfl
theorem law40 : WideMaps.KeyLaw Yba.prog 40 := deep_law_laid laidOutP (m := 3) (by omega) (of_decide_eq_true (by kernel_rfl)) (by kernel_rfl) (by kernel_rfl)
theorem law65 : WideMaps.KeyLaw Yba.prog 65 := deep_law_laid laidOutP (m := 4) (by omega) (of_decide_eq_true (by kernel_rfl)) (by kernel_rfl) (by kernel_rfl)

/-! ### Keys of bytes -/
theorem wf8 {x : Nat} (h : x ≤ 255) : (Lit.int .u8 (x : Int)).wf = true := by
  have h1 : IntKind.u8.min = 0 := by kernel_rfl
  have h2 : IntKind.u8.max = 255 := by kernel_rfl
  simp [Lit.wf]
  omega
theorem mapM_some {α β : Type} {f : α → Option β} {g : α → β} : ∀ {l : List α}, (∀ x ∈ l, f x = some (g x)) → l.mapM f = some (l.map g)
  | [], _ => rfl
  | x :: r, h => by
    rw [List.mapM_cons, h x List.mem_cons_self, mapM_some (fun y hy => h y (List.mem_cons_of_mem _ hy))]
    rfl
def keyN (b : Nat) : List Nat := List.replicate 31 0 ++ [b]
theorem keyC_N (b : Nat) : keyC b = (keyN b).map fun (x : Nat) => Value.int .u8 (x : Int) := by
  unfold keyC keyN
  rw [List.map_append, List.map_replicate]
  rfl
theorem keyN_le {b : Nat} (h : b ≤ 255) : ∀ x ∈ keyN b, x ≤ 255 := by
  intro x hx
  simp only [keyN, List.mem_append, List.mem_replicate, List.mem_singleton] at hx
  omega
theorem lits5 (D : Nat) {x : Nat} (h : x ≤ 255) : Yba.prog.keyLits (D + 1) 5 [.int .u8 (x : Int)] = some [.int .u8 (x : Int)] := by
  have hw := wf8 h
  simp [Program.keyLits, Yba.underlying5, hw]
theorem single_drop (l : List Value) (i : Nat) {v : Value} (h : l[i]? = some v) : (l.drop i).take 1 = [v] := by
  rw [List.drop_eq_getElem_cons (List.getElem?_eq_some_iff.1 h).1]
  simp [(List.getElem?_eq_some_iff.1 h).2]
theorem flatten_single {α β : Type} (g : α → β) : ∀ l : List α, (l.map fun x => [g x]).flatten = l.map g
  | [] => rfl
  | x :: r => by simp [flatten_single g r]
theorem lits_array {D t n e : Nat} {cs : List Value} (hu : Yba.prog.underlying t = some (.array n e)) :
    Yba.prog.keyLits (D + 1) t cs = if cs.length = Yba.prog.cellsOf t then ((List.range n).mapM fun i => Yba.prog.keyLits D e ((cs.drop (i * Yba.prog.cellsOf e)).take (Yba.prog.cellsOf e))).map List.flatten else none := by
  rw [Program.keyLits]
  simp only [hu]
theorem lits40 (D : Nat) {b : Nat} (h : b ≤ 255) : Yba.prog.keyLits (D + 2) 40 (keyC b) = some ((keyN b).map fun (x : Nat) => Lit.int .u8 (x : Int)) := by
  have c1 : Yba.prog.cellsOf 40 = 32 := by kernel_rfl
  have c2 : Yba.prog.cellsOf 5 = 1 := by kernel_rfl
  have hl : (keyN b).length = 32 := by simp [keyN]
  rw [lits_array (D := D + 1) Yba.underlying40]
  rw [if_pos (by rw [keyC_len, c1]), c2]
  rw [mapM_some (g := fun i => [Lit.int .u8 (((keyN b).getD i 0 : Nat) : Int)])]
  · simp only [Option.map_some, Option.some.injEq]
    rw [flatten_single]
    apply List.ext_getElem?
    intro i
    simp only [List.getElem?_map]
    by_cases hi : i < 32
    · rw [List.getElem?_range hi, List.getElem?_eq_getElem (by omega)]
      simp only [Option.map_some, Option.some.injEq, Lit.int.injEq, true_and]
      rw [List.getD_eq_getElem?_getD, List.getElem?_eq_getElem (by omega)]
      rfl
    · rw [List.getElem?_eq_none (by simp; omega), List.getElem?_eq_none (by omega)]
      rfl
  · intro i hi
    have hi := List.mem_range.1 hi
    have hx : (keyN b)[i]? = some ((keyN b).getD i 0) := by rw [List.getD_eq_getElem?_getD, List.getElem?_eq_getElem (by omega)]; rfl
    rw [Nat.mul_one, single_drop (keyC b) i (v := .int .u8 (((keyN b).getD i 0 : Nat) : Int)) (by rw [keyC_N, List.getElem?_map, hx]; rfl)]
    exact lits5 D (keyN_le h _ (List.mem_of_getElem? hx))
def litN (b : Nat) : List Lit := (keyN b).map fun (x : Nat) => Lit.int .u8 (x : Int)
def kl40 (b : Nat) : Lit := .string (keyBytes (litN b))
theorem depth : ∃ D, Yba.prog.types.size + 1 = D + 3 := ⟨Yba.prog.types.size - 2, by
  have : 3 ≤ Yba.prog.types.size := of_decide_eq_true (by kernel_rfl)
  omega⟩
theorem hkey40 {b : Nat} (h : b ≤ 255) : keyOf Yba.prog 40 (keyV b) = some (kl40 b) := by
  obtain ⟨D, hD⟩ := depth
  have c1 : Yba.prog.keyType 40 = true := by kernel_rfl
  have c2 : Value.formed Yba.prog 40 (keyV b) = true := by
    have : Yba.prog.cellsOf 40 = 32 := by kernel_rfl
    simp [Value.formed, keyV, Yba.underlying40, this, keyC_len]
  unfold keyOf
  simp only [Yba.underlying40, c1, c2, Bool.and_self, if_true]
  rw [hD, show (keyV b).cells.toList = keyC b from rfl, lits40 (D + 1) h]
  rfl
theorem litN_inj {a b : Nat} (h : litN a = litN b) : a = b := by
  have := congrArg (fun l : List Lit => l[31]?) h
  simp only [litN, keyN, List.getElem?_map] at this
  simp at this
  omega
theorem kl40_inj {a b : Nat} (ha : a ≤ 255) (hb : b ≤ 255) (h : kl40 a = kl40 b) : a = b := by
  refine litN_inj (Go.keyLits_inj (P := Yba.prog) (lits40 0 ha) (lits40 0 hb) ?_)
  simpa [kl40] using h
def pairC (a b : Nat) : List Value := keyC a ++ keyC b
def pairV (a b : Nat) : Value := .agg (pairC a b).toArray
theorem pairC_len (a b : Nat) : (pairC a b).length = 64 := by simp [pairC, keyC_len]
theorem lits65 (D : Nat) {a b : Nat} (ha : a ≤ 255) (hb : b ≤ 255) : Yba.prog.keyLits (D + 3) 65 (pairC a b) = some (litN a ++ litN b) := by
  have c1 : Yba.prog.cellsOf 65 = 64 := by kernel_rfl
  have c2 : Yba.prog.cellsOf 40 = 32 := by kernel_rfl
  rw [lits_array (D := D + 2) Yba.underlying65, if_pos (by rw [pairC_len, c1]), c2]
  have e0 : ((pairC a b).drop (0 * 32)).take 32 = keyC a := by
    rw [Nat.zero_mul, List.drop_zero, pairC, List.take_append_of_le_length (by rw [keyC_len]; omega), List.take_of_length_le (by rw [keyC_len]; omega)]
  have e1 : ((pairC a b).drop (1 * 32)).take 32 = keyC b := by
    rw [Nat.one_mul, pairC, List.drop_append_of_le_length (by rw [keyC_len]; omega), List.drop_of_length_le (by rw [keyC_len]; omega), List.nil_append, List.take_of_length_le (by rw [keyC_len]; omega)]
  rw [mapM_some (g := fun i => if i = 0 then litN a else litN b)]
  · rfl
  · intro i hi
    have hi := List.mem_range.1 hi
    have : i = 0 ∨ i = 1 := by omega
    rcases this with rfl | rfl
    · rw [e0, lits40 D ha]; rfl
    · rw [e1, lits40 D hb]; rfl
def kl65 (q : Nat × Nat) : Lit := .string (keyBytes (litN q.1 ++ litN q.2))
theorem hkey65 {a b : Nat} (ha : a ≤ 255) (hb : b ≤ 255) : keyOf Yba.prog 65 (pairV a b) = some (kl65 (a, b)) := by
  obtain ⟨D, hD⟩ := depth
  have c1 : Yba.prog.keyType 65 = true := by kernel_rfl
  have c2 : Value.formed Yba.prog 65 (pairV a b) = true := by
    have : Yba.prog.cellsOf 65 = 64 := by kernel_rfl
    simp [Value.formed, pairV, Yba.underlying65, this, pairC_len]
  unfold keyOf
  simp only [Yba.underlying65, c1, c2, Bool.and_self, if_true]
  rw [hD, show (pairV a b).cells.toList = pairC a b from rfl, lits65 D ha hb]
  rfl
theorem kl65_inj {q r : Nat × Nat} (h1 : q.1 ≤ 255) (h2 : q.2 ≤ 255) (h3 : r.1 ≤ 255) (h4 : r.2 ≤ 255) (h : kl65 q = kl65 r) : q = r := by
  have e := Go.keyLits_inj (P := Yba.prog) (lits65 0 h1 h2) (lits65 0 h3 h4) (by simpa [kl65] using h)
  have hl : (litN q.1).length = (litN r.1).length := by simp [litN, keyN]
  obtain ⟨e1, e2⟩ := List.append_inj e hl
  exact Prod.ext (litN_inj e1) (litN_inj e2)

/-! ### Maps -/
/-- A kind of key: its values, its letters. -/
structure KeyS (kt : TypeId) (α : Type) where
  law : WideMaps.KeyLaw Yba.prog kt
  val : α → Value
  lit : α → Lit
  ok : α → Prop
  hkey : ∀ x, ok x → keyOf Yba.prog kt (val x) = some (lit x)
  isk : ∀ x, WideAt.IsKeyLit (lit x)
  inj : ∀ x y, ok x → ok y → lit x = lit y → x = y
def K40 : KeyS 40 Nat := { law := law40, val := fun b => keyV b, lit := kl40, ok := fun b => b ≤ 255, hkey := fun _ h => hkey40 h, isk := fun _ => by simp [kl40, WideAt.IsKeyLit], inj := fun _ _ h1 h2 h => kl40_inj h1 h2 h }
def K65 : KeyS 65 (Nat × Nat) := { law := law65, val := fun q => pairV q.1 q.2, lit := kl65, ok := fun q => q.1 ≤ 255 ∧ q.2 ≤ 255, hkey := fun _ h => hkey65 h.1 h.2, isk := fun _ => by simp [kl65, WideAt.IsKeyLit], inj := fun _ _ h1 h2 h => kl65_inj h1.1 h1.2 h2.1 h2.2 h }
/-- What an element reads as: itself. -/
def RV (v : Value) : Option (DataW Value × List MemPlace) := some (.held v, [])
section
variable {kt : TypeId} {α : Type} (K : KeyS kt α)
/-- Block b is a map, of at most n entries, just sz: at x it holds f x. -/
def MapK (w : World) (b n sz : Nat) (f : α → Option Value) : Prop :=
  ∃ D : DataW Value, w.ownsMap Yba.prog kt RV b n D ∧ Maps.size D = sz ∧ ∀ x, K.ok x → Maps.has D (K.lit x) = (f x).isSome ∧ ∀ z, D.atKey (K.lit x) z = ((f x).map DataW.held).getD z
variable {K}
theorem MapK_made (w : World) : MapK K (w.alloc (.map #[] 0)) w.heap.size 0 0 (fun _ => none) :=
  ⟨_, World.ownsMap_made _ _ _ _, rfl, fun _ _ => ⟨rfl, fun _ => rfl⟩⟩
variable {w w' : World} {b n sz : Nat} {f : α → Option Value}
theorem MapK.lt (h : MapK K w b n sz f) : b < w.heap.size := by
  obtain ⟨_, h, _⟩ := h
  exact h.lt
theorem MapK.map (h : MapK K w b n sz f) : ∃ es c, w.heap[b]? = some (.map es c) := by
  obtain ⟨_, ⟨es, c, h, _⟩, _⟩ := h
  exact ⟨es, c, h⟩
theorem MapK.mono {n' : Nat} (h : MapK K w b n sz f) (hn : n ≤ n') : MapK K w b n' sz f := by
  obtain ⟨D, h, r⟩ := h
  exact ⟨D, h.mono hn, r⟩
theorem MapK.keep (h : MapK K w b n sz f) (hb : w'.heap[b]? = w.heap[b]?) : MapK K w' b n sz f := by
  obtain ⟨D, ⟨es, c, h1, r1⟩, r⟩ := h
  exact ⟨D, ⟨es, c, hb.trans h1, r1⟩, r⟩
theorem MapK.below (h : MapK K w b n sz f) {B : Nat} (hb : Below B w w') (hB : b < B) : MapK K w' b n sz f := h.keep (hb.block b hB)
theorem MapK.up (h : MapK K w b n sz f) {c : Nat} (hu : Up w w' c) (hc : b ≠ c) : MapK K w' b n sz f := h.keep (hu.block b hc)
theorem getD_held (o : Option Value) (z : Value) : (o.map DataW.held).getD (DataW.held z) = (DataW.held (o.getD z) : DataW Value) := by cases o <;> rfl
theorem MapK.look_ok (h : MapK K w b n sz f) {t e : TypeId} (ht : Yba.prog.underlying t = some (.map kt e)) {z : Value} (hz : (zeroValue e).run Yba.prog w = .ok z w) {x : α} (hx : K.ok x) :
    (Instr.lookup t (.map (some b)) (K.val x) true).run Yba.prog w = .ok (.tuple #[(f x).getD z, .bool (f x).isSome]) w := by
  obtain ⟨D, h, _, r⟩ := h
  obtain ⟨v, ps, hrun, hv⟩ := h.look_ok (Keyed.of_law K.law) ht hz (zd := .held z) (zp := []) rfl (K.hkey x hx)
  obtain ⟨r1, r2⟩ := r x hx
  rw [r2, getD_held] at hv
  simp only [RV, Option.some.injEq, Prod.mk.injEq, DataW.held.injEq] at hv
  rw [hrun, hv.1, r1]
theorem MapK.look (h : MapK K w b n sz f) {t e : TypeId} (ht : Yba.prog.underlying t = some (.map kt e)) {z : Value} (hz : (zeroValue e).run Yba.prog w = .ok z w) {x : α} (hx : K.ok x) :
    (Instr.lookup t (.map (some b)) (K.val x) false).run Yba.prog w = .ok ((f x).getD z) w := by
  obtain ⟨D, h, _, r⟩ := h
  obtain ⟨v, ps, hrun, hv⟩ := h.lookup (Keyed.of_law K.law) ht hz (zd := .held z) (zp := []) rfl (K.hkey x hx)
  obtain ⟨r1, r2⟩ := r x hx
  rw [r2, getD_held] at hv
  simp only [RV, Option.some.injEq, Prod.mk.injEq, DataW.held.injEq] at hv
  rw [hrun, hv.1]
theorem MapK.len (h : MapK K w b n sz f) {t e : TypeId} (ht : Yba.prog.underlying t = some (.map kt e)) (ty : TypeId) :
    (Builtin.len_ #[t] ty #[.map (some b)]).run Yba.prog w = .ok (.int .i64 (sz : Int)) w := by
  obtain ⟨D, h, rfl, _⟩ := h
  exact h.len ht ty
def putK [DecidableEq α] (f : α → Option Value) (g : α) (v : Value) : α → Option Value := fun j => if j = g then some v else f j
theorem turned_up {w w' : World} {b : Nat} (h : w.mapTurned w' b) : Up w w' b := by
  obtain ⟨es, c, es', c', hb, rfl⟩ := h
  exact ⟨rfl, rfl, rfl, by simp [setBlock], fun k hk => heap_setBlock_other hb _ hk⟩
theorem MapK.update [DecidableEq α] (h : MapK K w b n sz f) {t e : TypeId} (ht : Yba.prog.underlying t = some (.map kt e)) (hn : n < maxLen) {g : α} (hg : K.ok g) (v : Value) :
    ∃ w', (Instr.mapUpdate t (.map (some b)) (K.val g) v).run Yba.prog w = .ok () w' ∧ Up w w' b ∧ MapK K w' b (n + 1) (if (f g).isSome then sz else sz + 1) (putK f g v) := by
  obtain ⟨D, h, rfl, r⟩ := h
  obtain ⟨w', hrun, hown, ht⟩ := h.store (Keyed.of_law K.law) ht hn (K.hkey g hg) (val := v) (d := .held v) (ps := []) rfl
  refine ⟨w', hrun, turned_up ht, _, hown, ?_, fun j hj => ?_⟩
  · rw [Maps.size_put (h.tidy (Keyed.of_law K.law)), (r g hg).1]
  · unfold putK
    by_cases hjg : j = g
    · subst hjg
      rw [if_pos rfl]
      exact ⟨Maps.has_put_same h.isMap (K.isk j) _, fun z => Maps.atKey_put_same h.isMap (K.isk j) _ _⟩
    · rw [if_neg hjg]
      have hne : K.lit j ≠ K.lit g := fun e => hjg (K.inj j g hj hg e)
      exact ⟨(Maps.has_put_other hne _).trans (r j hj).1, fun z => (Maps.atKey_put_other hne _ _).trans ((r j hj).2 z)⟩
end
end Go.Proofs.Ybulkcrtu
