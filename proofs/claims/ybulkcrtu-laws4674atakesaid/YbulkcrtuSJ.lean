import Derived.Test.YbulkcrtuSI
namespace Go.Proofs.Ybulkcrtu
open Go.RowKit

def bs0 (X : UInt8) : ByteArray := ⟨ByteArray.empty.data ++ (List.replicate 31 (0 : UInt8) ++ [X]).toArray⟩
def bs255 (X : UInt8) : ByteArray := ⟨ByteArray.empty.data ++ (List.replicate 31 (255 : UInt8) ++ [X]).toArray⟩
theorem bs0_find (X Y : UInt8) : ((List.range (min (bs0 X).size (bs0 Y).size)).find? fun i => (bs0 X)[i]! != (bs0 Y)[i]!) = bif (X != Y) then some 31 else none := by kernel_rfl
theorem bs0_last (X : UInt8) : (bs0 X)[31]! = X := by kernel_rfl
theorem bs0_size (X : UInt8) : (bs0 X).size = 32 := by kernel_rfl
theorem cmp0 (X Y : UInt8) : Extern.BytealgCompare.cmp (bs0 X) (bs0 Y) = if (X != Y) = true then (if X < Y then -1 else 1) else 0 := by
  unfold Extern.BytealgCompare.cmp
  rw [bs0_find, bs0_size, bs0_size]
  cases h : (X != Y) with
  | true => simp only [cond_true, bs0_last, if_true]
  | false => simp only [cond_false, Bool.false_eq_true, if_false]; rfl
theorem cmp255 (X Y : UInt8) : Extern.BytealgCompare.cmp (bs255 X) (bs0 Y) = 1 := by kernel_rfl
/-- What comparing h h .. h x with 0 0 .. 0 y gives. -/
def cmpf (h x y : Int) : Int := if h = 0 then (if x = y then 0 else if x < y then -1 else 1) else 1
theorem u8_ne (x y : Int) (h0 : 0 ≤ x) (h1 : x ≤ 255) (h2 : 0 ≤ y) (h3 : y ≤ 255) : (x.toNat.toUInt8 != y.toNat.toUInt8) = decide (x ≠ y) := by
  have ex : x.toNat.toUInt8.toNat = x.toNat := by simp; omega
  have ey : y.toNat.toUInt8.toNat = y.toNat := by simp; omega
  by_cases h : x = y
  · subst h; simp
  · rw [decide_eq_true h]
    simp only [bne_iff_ne, ne_eq]
    intro e
    have := congrArg UInt8.toNat e
    rw [ex, ey] at this
    omega
theorem u8_lt (x y : Int) (h0 : 0 ≤ x) (h1 : x ≤ 255) (h2 : 0 ≤ y) (h3 : y ≤ 255) : (x.toNat.toUInt8 < y.toNat.toUInt8) ↔ x < y := by
  have ex : x.toNat.toUInt8.toNat = x.toNat := by simp; omega
  have ey : y.toNat.toUInt8.toNat = y.toNat := by simp; omega
  rw [UInt8.lt_iff_toNat_lt, ex, ey]
  omega
theorem cmp_words (h x y : Int) (hh : h = 0 ∨ h = 255) (h0 : 0 ≤ x) (h1 : x ≤ 255) (h2 : 0 ≤ y) (h3 : y ≤ 255) :
    Extern.BytealgCompare.cmp ⟨ByteArray.empty.data ++ (Lib.bytesOf (List.replicate 31 h ++ [x])).toArray⟩ ⟨ByteArray.empty.data ++ (Lib.bytesOf (List.replicate 31 0 ++ [y])).toArray⟩ = cmpf h x y := by
  have e2 : (⟨ByteArray.empty.data ++ (Lib.bytesOf (List.replicate 31 0 ++ [y])).toArray⟩ : ByteArray) = bs0 y.toNat.toUInt8 := by kernel_rfl
  rw [e2]
  rcases hh with rfl | rfl
  · have e1 : (⟨ByteArray.empty.data ++ (Lib.bytesOf (List.replicate 31 0 ++ [x])).toArray⟩ : ByteArray) = bs0 x.toNat.toUInt8 := by kernel_rfl
    rw [e1, cmp0, u8_ne x y h0 h1 h2 h3]
    unfold cmpf
    rw [if_pos rfl]
    by_cases e : x = y
    · rw [if_pos e, if_neg (by simp [e])]
    · rw [if_neg e, if_pos (by simp [e])]
      by_cases l : x < y
      · rw [if_pos l, if_pos ((u8_lt x y h0 h1 h2 h3).2 l)]
      · rw [if_neg l, if_neg (fun q => l ((u8_lt x y h0 h1 h2 h3).1 q))]
  · have e1 : (⟨ByteArray.empty.data ++ (Lib.bytesOf (List.replicate 31 255 ++ [x])).toArray⟩ : ByteArray) = bs255 x.toNat.toUInt8 := by kernel_rfl
    rw [e1, cmp255]
    rfl
theorem dC_cells {w : World} {b t : Nat} {h x : Int} (hr : Row w b t 32 (fun i => (dC h x).getD i undef)) : ∀ j y, (List.replicate 31 h ++ [x])[j]? = some y → w.cell? ((⟨b, 0, none⟩ : Addr).add j) = some (.int .u8 y) := fun j y hj => by
  have hl : j < 32 := by have := (List.getElem?_eq_some_iff.1 hj).1; simpa using this
  rw [Addr.add_mid, Nat.zero_add, hr.cell hl]
  have e : dC h x = (List.replicate 31 h ++ [x]).map (Value.int .u8) := by simp [dC]
  rw [e, List.getD_eq_getElem?_getD, List.getElem?_map, hj]
  rfl
theorem run_compare (b1 b2 t1 t2 : Nat) (h x y : Int) (w : World) (hh : h = 0 ∨ h = 255) (h0 : 0 ≤ x) (h1 : x ≤ 255) (h2 : 0 ≤ y) (h3 : y ≤ 255) (r1 : Row w b1 t1 32 (fun i => (dC h x).getD i undef)) (r2 : Row w b2 t2 32 (fun i => (keyC y).getD i undef)) :
    (callFunc 74 #[.slice (some ⟨b1, 0, none⟩) 32 32, .slice (some ⟨b2, 0, none⟩) 32 32]).run Yba.prog w = .ok (.value (.int .i64 (cmpf h x y))) w := by
  have l1 := Lib.run_loadBytesX (P := Yba.prog) w (List.replicate 31 h ++ [x]) ⟨b1, 0, none⟩ .empty (dC_cells r1)
  have l2 := Lib.run_loadBytesX (P := Yba.prog) w (List.replicate 31 0 ++ [y]) ⟨b2, 0, none⟩ .empty (dC_cells (h := 0) r2)
  have e1 : (List.replicate 31 h ++ [x]).length = 32 := by simp
  have e2 : (List.replicate 31 (0 : Int) ++ [y]).length = 32 := by simp
  rw [e1] at l1
  rw [e2] at l2
  rw [run_callFunc_extern Yba.func74 (by kernel_rfl) (by kernel_rfl) (by kernel_rfl) (e := Extern.BytealgCompare.compare) (by kernel_rfl)]
  have hc := cmp_words h x y hh h0 h1 h2 h3
  have ec : ∀ u v : Value, Extern.BytealgCompare.compare #[u, v] = (Extern.Bytes.bytesOf u >>= fun p => Extern.Bytes.bytesOf v >>= fun q => pure (goInt (Extern.BytealgCompare.cmp p q))) := fun _ _ => rfl
  rw [ec]
  simp only [Extern.Bytes.bytesOf, Sem.run_bind, l1, l2, Result.andThen, Sem.run_pure, hc]
  rfl
theorem keyC_dC (y : Int) : keyC y = dC 0 y := rfl
set_option maxRecDepth 100000 in
theorem bytes_compare (b1 b2 t1 t2 : Nat) (h x y : Int) (w : World) (hh : h = 0 ∨ h = 255) (h0 : 0 ≤ x) (h1 : x ≤ 255) (h2 : 0 ≤ y) (h3 : y ≤ 255) (r1 : Row w b1 t1 32 (fun i => (dC h x).getD i undef)) (r2 : Row w b2 t2 32 (fun i => (keyC y).getD i undef)) :
    Calls Yba.prog 64 #[.slice (some ⟨b1, 0, none⟩) 32 32, .slice (some ⟨b2, 0, none⟩) 32 32] w fun e w' => e = .returned (.int .i64 (cmpf h x y)) ∧ w' = w := by
  refine enter (args := [.slice (some ⟨b1, 0, none⟩) 32 32, .slice (some ⟨b2, 0, none⟩) 32 32]) Yba.func64 rfl 8 Yba.ntmps64 rfl fun a hA => ?_
  refine sq ?_
  refine st0 hA (wn rfl) rfl rfl (x_as rfl) fun a hA => ?_
  refine fin ?_
  refine sq ?_
  refine st0 hA (wn rfl) rfl rfl (x_mv rfl) fun a hA => ?_
  refine st0 hA (wn rfl) rfl rfl (x_mv rfl) fun a hA => ?_
  refine st0 hA (wn rfl) rfl rfl (x_callv rfl (run_compare b1 b2 t1 t2 h x y w hh h0 h1 h2 h3 r1 r2)) fun a hA => ?_
  refine st0 hA (wn rfl) rfl rfl (x_as rfl) fun a hA => ?_
  refine fin ?_
  exact wp_ret (rt hA rfl rfl ⟨rfl, rfl⟩)
set_option maxRecDepth 100000 in
theorem compare_keys (h x y : Int) (w : World) (hh : h = 0 ∨ h = 255) (h0 : 0 ≤ x) (h1 : x ≤ 255) (h2 : 0 ≤ y) (h3 : y ≤ 255) :
    Calls Yba.prog 48 #[.agg (dC h x).toArray, keyV y] w fun e w' => e = .returned (.int .i64 (cmpf h x y)) ∧ Below w.heap.size w w' := by
  refine enter (args := [.agg (dC h x).toArray, keyV y]) Yba.func48 rfl 8 Yba.ntmps48 rfl fun a hA => ?_
  refine sq ?_
  refine st hA (wn rfl) rfl rfl (x_box rfl (mk_box (dC h x) _)) fun a w1 hA m1 => ?_
  refine st hA (wn rfl) rfl rfl (x_box rfl (mk_box (keyC y) _)) fun a w2 hA m2 => ?_
  refine st0 hA (wn rfl) rfl rfl (x_as rfl) fun a hA => ?_
  refine fin ?_
  have s1 := m1.2.1
  have r1 := m1.row.below m2.1 (by omega)
  have r2 := m2.row
  rw [dC_len] at r1
  rw [keyC_len] at r2
  have hc := bytes_compare _ _ _ _ h x y w2.drew hh h0 h1 h2 h3 r1 r2
  refine wp_seq ?_
  refine drawn_keep [.slice (some ⟨w.heap.size, 0, none⟩) 32 32, .slice (some ⟨w1.heap.size, 0, none⟩) 32 32, .int .i64 (cmpf h x y), .int .i64 (cmpf h x y)] (· = w2.drew) (hA.pick [2, 3]) mixed rfl rfl ?_ ?_
  · refine each_cons (do0 rfl [] rfl (wn rfl) fun w hS => (x_slice rfl rfl rfl rfl (sl40a _ _))) ?_
    refine each_cons (do0 rfl [] rfl (wn rfl) fun w hS => (x_slice rfl rfl rfl rfl (sl40a _ _))) ?_
    refine each_cons (do1 rfl [(5, 0), (6, 1)] rfl (wn rfl) fun w hS => (x_call (cap := []) rfl rfl c64 (by subst hS; exact hc))) ?_
    refine each_cons (do0 rfl [(7, 2)] rfl (wn rfl) fun w hS => (x_as rfl)) ?_
    exact each_nil
  · intro a w' hA hS
    subst hS
    exact wp_ret (rt hA rfl rfl ⟨rfl, (m1.1.trans (m2.1.mono (by omega))).drew⟩)

/-! ### The lookup's own block -/
/-- What the cells of the lookup hold. -/
structure LkP where
  self : Int
  lo : Nat
  wd : Nat
  purpose : Int
  known : Nat
  shown : Nat
  linked : Nat
  asked : Nat
  dead : Nat
  unheard : Nat
def lkC (p : LkP) : List Value := apC p.self ++ keyC p.lo ++ zs 32 (.int .u8 0) ++ keyC p.wd ++ [.int .i64 p.purpose, .map (some p.known), .map (some p.shown), .map (some p.linked), .map (some p.asked), .map (some p.dead), .map (some p.unheard), .slice none 0 0, .int .i64 0]
def Lk (w : World) (b : Nat) (p : LkP) : Prop := Row w b 49 109 (fun i => (lkC p).getD i undef)
theorem getD_mid (pre cs post : List Value) {j : Nat} {v : Value} (hj : cs[j]? = some v) : (pre ++ cs ++ post).getD (pre.length + j) undef = v := by
  have hl := lt_cells hj
  rw [List.getD_eq_getElem?_getD, List.append_assoc, List.getElem?_append_right (by omega), Nat.add_sub_cancel_left, List.getElem?_append_left hl, hj]
  rfl
section
variable {w : World} {b : Nat} {p : LkP}
theorem lkC_len (p : LkP) : (lkC p).length = 109 := by simp [lkC, keyC_len, apC, zs]
theorem Lk.self (h : Lk w b p) : (Instr.loadAt 37 (.pointer (some ⟨b, 0, none⟩))).run Yba.prog w = .ok (apV p.self) w :=
  Row.load h (apC p.self) Yba.underlying37 rfl info37 fun j v hj => ⟨by have := lt_cells hj; simp [apC] at this; omega, by
    have := getD_mid [] (apC p.self) (keyC p.lo ++ zs 32 (.int .u8 0) ++ keyC p.wd ++ [.int .i64 p.purpose, .map (some p.known), .map (some p.shown), .map (some p.linked), .map (some p.asked), .map (some p.dead), .map (some p.unheard), .slice none 0 0, .int .i64 0]) hj
    simpa [lkC, List.append_assoc] using this⟩
theorem Lk.low (h : Lk w b p) : (Instr.loadAt 40 (.pointer (some ⟨b, 0 + 4, none⟩))).run Yba.prog w = .ok (keyV p.lo) w :=
  Row.load h (keyC p.lo) Yba.underlying40 rfl info40 fun j v hj => ⟨by have := lt_cells hj; rw [keyC_len] at this; omega, by
    have := getD_mid (apC p.self) (keyC p.lo) (zs 32 (.int .u8 0) ++ keyC p.wd ++ [.int .i64 p.purpose, .map (some p.known), .map (some p.shown), .map (some p.linked), .map (some p.asked), .map (some p.dead), .map (some p.unheard), .slice none 0 0, .int .i64 0]) hj
    rw [← this]
    unfold lkC
    simp only [List.append_assoc]
    rfl⟩
theorem Lk.width (h : Lk w b p) : (Instr.loadAt 40 (.pointer (some ⟨b, 0 + 68, none⟩))).run Yba.prog w = .ok (keyV p.wd) w :=
  Row.load h (keyC p.wd) Yba.underlying40 rfl info40 fun j v hj => ⟨by have := lt_cells hj; rw [keyC_len] at this; omega, by
    have := getD_mid (apC p.self ++ keyC p.lo ++ zs 32 (.int .u8 0)) (keyC p.wd) [.int .i64 p.purpose, .map (some p.known), .map (some p.shown), .map (some p.linked), .map (some p.asked), .map (some p.dead), .map (some p.unheard), .slice none 0 0, .int .i64 0] hj
    rw [← this]
    rfl⟩
set_option maxRecDepth 100000 in
theorem Lk.one (h : Lk w b p) {ty : TypeId} (hag : ∀ w : World, (isAgg ty).run Yba.prog w = .ok false w) (j : Nat) (v : Value) (hj : j < 9) (hv : ([.int .i64 p.purpose, .map (some p.known), .map (some p.shown), .map (some p.linked), .map (some p.asked), .map (some p.dead), .map (some p.unheard), .slice none 0 0, .int .i64 0] : List Value)[j]? = some v) :
    (Instr.loadAt ty (.pointer (some ⟨b, 0 + (100 + j), none⟩))).run Yba.prog w = .ok v w := by
  have := getD_mid (apC p.self ++ keyC p.lo ++ zs 32 (.int .u8 0) ++ keyC p.wd) [.int .i64 p.purpose, .map (some p.known), .map (some p.shown), .map (some p.linked), .map (some p.asked), .map (some p.dead), .map (some p.unheard), .slice none 0 0, .int .i64 0] [] hv
  rw [List.append_nil] at this
  have hl := Row.load1 (o := 0 + (100 + j)) h hag (by omega)
  have e : (lkC p).getD (0 + (100 + j)) undef = v := by
    rw [← this, Nat.zero_add]
    congr 1
  rw [hl]
  exact congrArg (fun u => Result.ok u w) e
theorem Lk.below (h : Lk w b p) {w' : World} {B : Nat} (hb : Below B w w') (hB : b < B) : Lk w' b p := Row.below h hb hB
end
/-- k lies in [lo, lo + wd]. -/
def inR (lo wd k : Nat) : Bool := decide (lo ≤ k ∧ k - lo ≤ wd)
theorem cmpf_inR (lo wd k : Nat) : decide (cmpf (dh k lo) (dx k lo) wd ≤ 0) = inR lo wd k := by
  unfold inR cmpf dh dx
  by_cases h : k < lo
  · rw [if_pos h, if_pos h, if_neg (by omega), decide_eq_false (by omega), decide_eq_false (by omega)]
  · rw [if_neg h, if_neg h, if_pos rfl]
    by_cases e : (k : Int) - lo = wd
    · rw [if_pos e, decide_eq_true (by omega), decide_eq_true (by omega)]
    · rw [if_neg e]
      by_cases l : (k : Int) - lo < wd
      · rw [if_pos l, decide_eq_true (by omega), decide_eq_true (by omega)]
      · rw [if_neg l, decide_eq_false (by omega), decide_eq_false (by omega)]
set_option maxRecDepth 100000 in
theorem in_width (b : Nat) (p : LkP) (h x : Int) (w : World) (hh : h = 0 ∨ h = 255) (h0 : 0 ≤ x) (h1 : x ≤ 255) (hw : p.wd ≤ 255) (hL : Lk w b p) :
    Calls Yba.prog 38 #[.pointer (some ⟨b, 0, none⟩), .agg (dC h x).toArray] w fun e w' => e = .returned (.bool (decide (cmpf h x p.wd ≤ 0))) ∧ Below w.heap.size w w' := by
  refine enter (args := [.pointer (some ⟨b, 0, none⟩), .agg (dC h x).toArray]) Yba.func38 rfl 12 Yba.ntmps38 rfl fun a hA => ?_
  refine sq ?_
  refine st hA (wn rfl) rfl rfl (x_box rfl (mk_box (dC h x) _)) fun a w1 hA m1 => ?_
  refine st0 hA (wn rfl) rfl rfl (x_as rfl) fun a hA => ?_
  refine fin ?_
  have hL1 : Lk w1.drew b p := hL.below m1.1.drew hL.lt
  have r1 : Row w1.drew w.heap.size 40 32 (fun i => (dC h x).getD i undef) := by have := m1.row; rw [dC_len] at this; exact this
  have hc := compare_keys h x p.wd
  refine wp_seq ?_
  refine drawn_keep [.agg (dC h x).toArray, .pointer (some ⟨b, 0, none⟩), .pointer (some ⟨b, 0, none⟩), .pointer (some ⟨b, 0 + 68, none⟩), keyV p.wd, .int .i64 (cmpf h x p.wd), .bool (decide (cmpf h x p.wd ≤ 0)), .bool (decide (cmpf h x p.wd ≤ 0))] (fun w' => Below w1.drew.heap.size w1.drew w') (hA.pick [0, 3]) mixed rfl (Below.refl _ _) ?_ ?_
  · refine each_cons (do0 rfl [] rfl (wn rfl) fun w hS => (x_load rfl ((r1.below hS r1.lt).load (dC h x) Yba.underlying40 rfl (by rw [dC_len]; exact info40) fun j v hj => ⟨by have := lt_cells hj; rw [dC_len] at this; omega, by rw [Nat.zero_add]; exact getD_cells hj⟩))) ?_
    refine each_cons (do0 rfl [] rfl (wn rfl) fun w hS => (x_mv rfl)) ?_
    refine each_cons (do0 rfl [(6, 1)] rfl (wn rfl) fun w hS => (x_nil rfl)) ?_
    refine each_cons (do0 rfl [(7, 2)] rfl (wn rfl) fun w hS => (x_fld rfl (fld49_3 _ _ _))) ?_
    refine each_cons (do0 rfl [(8, 3)] rfl (wn rfl) fun w hS => (x_load rfl (hL1.below hS hL1.lt).width)) ?_
    refine each_cons (do1 rfl [(5, 0), (9, 4)] rfl (wn rfl) fun w hS => (x_call (cap := []) rfl rfl c48 ((hc w hh h0 h1 (by omega) (by omega)).mono fun e w' q => ⟨q.1, hS.trans (q.2.mono hS.size)⟩))) ?_
    refine each_cons (do0 rfl [(10, 5)] rfl (wn rfl) fun w hS => (x_bin rfl rfl (leq3 _ _ _ _))) ?_
    refine each_cons (do0 rfl [(11, 6)] rfl (wn rfl) fun w hS => (x_as rfl)) ?_
    exact each_nil
  · intro a w' hA hS
    exact wp_ret (rt hA rfl rfl ⟨rfl, m1.1.trans (Below.trans (b := w1.drew) (Below.refl _ _).drew (hS.mono m1.1.size))⟩)
set_option maxRecDepth 100000 in
theorem in_range (b k : Nat) (p : LkP) (w : World) (hk : k ≤ 255) (hl : p.lo ≤ 255) (hw : p.wd ≤ 255) (hL : Lk w b p) :
    Calls Yba.prog 22 #[.pointer (some ⟨b, 0, none⟩), keyV k] w fun e w' => e = .returned (.bool (inR p.lo p.wd k)) ∧ Below w.heap.size w w' := by
  have hdh : dh k p.lo = 0 ∨ dh k p.lo = 255 := by unfold dh; split <;> simp
  have hdx : 0 ≤ dx k p.lo ∧ dx k p.lo ≤ 255 := by unfold dx; split <;> omega
  refine enter (args := [.pointer (some ⟨b, 0, none⟩), keyV k]) Yba.func22 rfl 13 Yba.ntmps22 rfl fun a hA => ?_
  refine sq ?_
  refine st hA (wn rfl) rfl rfl (x_box rfl (mk_box (keyC k) _)) fun a w1 hA m1 => ?_
  refine st0 hA (wn rfl) rfl rfl (x_as rfl) fun a hA => ?_
  refine fin ?_
  have hL1 : Lk w1.drew b p := hL.below m1.1.drew hL.lt
  have r1 : Row w1.drew w.heap.size 40 32 (fun i => (keyC k).getD i undef) := m1.row
  refine wp_seq ?_
  refine drawn_keep [.pointer (some ⟨b, 0, none⟩), .pointer (some ⟨b, 0, none⟩), .pointer (some ⟨b, 0, none⟩), .pointer (some ⟨b, 0 + 4, none⟩), keyV p.lo, keyV k, .agg (dC (dh k p.lo) (dx k p.lo)).toArray, .bool (decide (cmpf (dh k p.lo) (dx k p.lo) p.wd ≤ 0)), .bool (decide (cmpf (dh k p.lo) (dx k p.lo) p.wd ≤ 0))] (fun w' => Below w1.drew.heap.size w1.drew w') (hA.pick [0, 3]) mixed rfl (Below.refl _ _) ?_ ?_
  · refine each_cons (do0 rfl [] rfl (wn rfl) fun w hS => (x_mv rfl)) ?_
    refine each_cons (do0 rfl [] rfl (wn rfl) fun w hS => (x_mv rfl)) ?_
    refine each_cons (do0 rfl [(6, 1)] rfl (wn rfl) fun w hS => (x_nil rfl)) ?_
    refine each_cons (do0 rfl [(7, 2)] rfl (wn rfl) fun w hS => (x_fld rfl (fld49_1 _ _ _))) ?_
    refine each_cons (do0 rfl [(8, 3)] rfl (wn rfl) fun w hS => (x_load rfl (hL1.below hS hL1.lt).low)) ?_
    refine each_cons (do0 rfl [] rfl (wn rfl) fun w hS => (x_load rfl ((r1.below hS r1.lt).load (keyC k) Yba.underlying40 rfl info40 fun j v hj => ⟨by have := lt_cells hj; rw [keyC_len] at this; omega, by rw [Nat.zero_add]; exact getD_cells hj⟩))) ?_
    refine each_cons (do1 rfl [(9, 4), (10, 5)] rfl (wn rfl) fun w hS => (x_call (cap := []) rfl rfl c39 ((distance_any p.lo k w hk hl).mono fun e w' q => ⟨q.1, hS.trans (q.2.mono hS.size)⟩))) ?_
    refine each_cons (do1 rfl [(5, 0), (11, 6)] rfl (wn rfl) fun w hS => (x_call (cap := []) rfl rfl c38 ((in_width b p _ _ w hdh hdx.1 hdx.2 hw (hL1.below hS hL1.lt)).mono fun e w' q => ⟨q.1, hS.trans (q.2.mono hS.size)⟩))) ?_
    refine each_cons (do0 rfl [(12, 7)] rfl (wn rfl) fun w hS => (x_as rfl)) ?_
    exact each_nil
  · intro a w' hA hS
    refine wp_ret (rt hA rfl rfl ⟨?_, m1.1.trans (Below.trans (b := w1.drew) (Below.refl _ _).drew (hS.mono m1.1.size))⟩)
    rw [cmpf_inR p.lo p.wd k]
end Go.Proofs.Ybulkcrtu
