import Derived.Test.YbulkcrtuSH
namespace Go.Proofs.Ybulkcrtu
open Go.RowKit

section
variable {l : List (Nat × Value)} {w : World} {dz : Option Tmp} {ty : TypeId} {pz : String} {af : Array Edge} {gz : Option (Nat × Bool)}
/-- A call for which the model stands in. -/
theorem x_callv {f : FuncId} {xs : List Operand} {ts : Array TypeId} {vs : List Value} {v : Value} (hx : evs l xs = some vs) (hf : (callFunc f vs.toArray).run Yba.prog w = .ok (.value v) w) : Goes l ⟨dz, .call { callee := .value (.func f), args := xs.toArray, argTypes := ts }, ty, pz, af, gz⟩ w v (· = w) := by
  refine g_run (w' := w) (fun a N hA => ?_) rfl
  have e : (xs.toArray.map a.eval) = vs.toArray := by simpa using congrArg List.toArray (hA.evs hx)
  unfold execOp
  simp only [resolve, Act.eval, Deferred.ofValue, Sem.run_bind, Sem.run_pure, Result.andThen_ok, invoke]
  rw [show (xs.toArray.map fun x => a.eval x) = vs.toArray from e]
  simpa using hf
def evo (l : List (Nat × Value)) : Option Operand → Option (Option Value)
  | none => some none
  | some x => (ev l x).map some
theorem At.evo {A : Act} {N : Nat} (h : At A N l) {x : Option Operand} {v : Option Value} (hx : evo l x = some v) : x.map A.eval = v := by
  cases x with
  | none => simpa [Ybulkcrtu.evo] using hx
  | some x =>
    have hx : (Ybulkcrtu.ev l x).map some = some v := hx
    cases he : Ybulkcrtu.ev l x with
    | none => rw [he] at hx; simp at hx
    | some u =>
      rw [he] at hx
      simp only [Option.map_some, Option.some.injEq] at hx
      rw [← hx, Option.map_some, h.ev he]
set_option maxRecDepth 100000 in
theorem x_slice {t : TypeId} {x : Operand} {lo hi mx : Option Operand} {vx v : Value} {vl vh vm : Option Value} (hx : ev l x = some vx) (hl : evo l lo = some vl) (hh : evo l hi = some vh) (hm : evo l mx = some vm) (hs : (Instr.sliceAt t vx vl vh vm).run Yba.prog w = .ok v w) : Goes l ⟨dz, .slice t x lo hi mx, ty, pz, af, gz⟩ w v (· = w) := by
  refine g_run (w' := w) (fun a N hA => ?_) rfl
  unfold execOp
  simp only [hA.ev hx, hA.evo hl, hA.evo hh, hA.evo hm]
  rw [Sem.run_bind, hs]
  rfl
end
theorem sl40 (b j : Nat) (w : World) (hj : j = 0 ∨ j = 8 ∨ j = 16 ∨ j = 24) : (Instr.sliceAt 40 (.pointer (some ⟨b, 0, none⟩)) (some (.int .i64 (j : Int))) none none).run Yba.prog w = .ok (.slice (some ⟨b, j, none⟩) (32 - j) (32 - j)) w := by
  rcases hj with rfl | rfl | rfl | rfl <;> kernel_rfl
theorem sl40a (b : Nat) (w : World) : (Instr.sliceAt 40 (.pointer (some ⟨b, 0, none⟩)) none none none).run Yba.prog w = .ok (.slice (some ⟨b, 0, none⟩) 32 32) w := by kernel_rfl
theorem sub64_0 (x y : Nat) (w : World) : (callFunc 49 #[.int .u64 (x : Int), .int .u64 (y : Int), .int .u64 0]).run Yba.prog w = .ok (.value (.tuple #[.int .u64 (((x + 18446744073709551616 - y - 0) % 18446744073709551616 : Nat) : Int), .int .u64 ((if x < y + 0 then 1 else 0 : Nat) : Int)])) w := by kernel_rfl
theorem sub64_1 (x y : Nat) (w : World) : (callFunc 49 #[.int .u64 (x : Int), .int .u64 (y : Int), .int .u64 1]).run Yba.prog w = .ok (.value (.tuple #[.int .u64 (((x + 18446744073709551616 - y - 1) % 18446744073709551616 : Nat) : Int), .int .u64 ((if x < y + 1 then 1 else 0 : Nat) : Int)])) w := by kernel_rfl
/-- The bytes of k - lo round the circle: h h .. h x. -/
def dh (k lo : Nat) : Int := if k < lo then 255 else 0
def dx (k lo : Nat) : Int := if k < lo then 256 + (k : Int) - lo else (k : Int) - lo
def db (k lo : Nat) : Int := if k < lo then 1 else 0
theorem sub_word (k lo : Nat) (f : Prop) [Decidable f] (w : World) (hk : k ≤ 255) (hl : lo ≤ 255) :
    (callFunc 49 #[.int .u64 (if f then (k : Int) else 0), .int .u64 (if f then (lo : Int) else 0), .int .u64 (if f then 0 else db k lo)]).run Yba.prog w = .ok (.value (.tuple #[.int .u64 (wordOf (dh k lo) (if f then dx k lo else dh k lo)), .int .u64 (db k lo)])) w := by
  by_cases hf : f
  · simp only [if_pos hf]
    rw [sub64_0]
    by_cases h : k < lo
    · have e1 : (((k + 18446744073709551616 - lo - 0) % 18446744073709551616 : Nat) : Int) = wordOf (dh k lo) (dx k lo) := by unfold wordOf dh dx; rw [if_pos h, if_pos h]; omega
      have e2 : ((if k < lo + 0 then 1 else 0 : Nat) : Int) = db k lo := by unfold db; rw [if_pos h, if_pos (by omega)]; rfl
      rw [e1, e2]
    · have e1 : (((k + 18446744073709551616 - lo - 0) % 18446744073709551616 : Nat) : Int) = wordOf (dh k lo) (dx k lo) := by unfold wordOf dh dx; rw [if_neg h, if_neg h]; omega
      have e2 : ((if k < lo + 0 then 1 else 0 : Nat) : Int) = db k lo := by unfold db; rw [if_neg h, if_neg (by omega)]; rfl
      rw [e1, e2]
  · simp only [if_neg hf]
    by_cases h : k < lo
    · have e0 : db k lo = 1 := by unfold db; rw [if_pos h]
      have e1 : wordOf (dh k lo) (dh k lo) = 18446744073709551615 := by unfold wordOf dh; rw [if_pos h]; rfl
      rw [e0, e1]
      exact sub64_1 0 0 w
    · have e0 : db k lo = 0 := by unfold db; rw [if_neg h]
      have e1 : wordOf (dh k lo) (dh k lo) = 0 := by unfold wordOf dh; rw [if_neg h]; rfl
      rw [e0, e1]
      exact sub64_0 0 0 w
theorem key_low8 {w : World} {b t : Nat} {k : Int} (h : Row w b t 32 (fun i => (keyC k).getD i undef)) (j : Nat) (hj : j = 0 ∨ j = 8 ∨ j = 16 ∨ j = 24) : Low8 w b j (if j = 24 then k else 0) := by
  refine ⟨fun i hi => ?_, ?_⟩
  · rw [h.cell (by omega)]
    have : j + i < 31 := by omega
    unfold keyC
    rw [List.getD_eq_getElem?_getD, List.getElem?_append_left (by simpa using this), List.getElem?_replicate, if_pos this]
    rfl
  · rw [h.cell (by omega)]
    rcases hj with rfl | rfl | rfl | rfl <;> rfl
def dC (h x : Int) : List Value := List.replicate 31 (.int .u8 h) ++ [.int .u8 x]
theorem dC_len (h x : Int) : (dC h x).length = 32 := by simp [dC]
theorem dC_one (h x : Int) : (dC h x).all (·.oneCell') = true := by kernel_rfl
theorem dC_get (h x : Int) {j : Nat} {v : Value} (hj : (dC h x)[j]? = some v) : j < 32 ∧ v = if j = 31 then .int .u8 x else .int .u8 h := by
  have hl := lt_cells hj
  rw [dC_len] at hl
  refine ⟨hl, ?_⟩
  unfold dC at hj
  by_cases e : j = 31
  · subst e
    simp at hj
    rw [if_pos rfl]
    exact hj.symm
  · rw [List.getElem?_append_left (by simp; omega), List.getElem?_replicate, if_pos (by omega)] at hj
    rw [if_neg e]
    exact (Option.some.inj hj).symm
theorem load163 (w : World) : (Instr.loadAt 163 (.pointer (some ⟨0, 0, none⟩))).run Yba.prog w = .ok (.agg ([] : List Value).toArray) w :=
  run_loadAt_mid w 0 0 163 [] _ (fun j v hj => by simp at hj) Yba.underlying163 rfl (by kernel_rfl)
theorem byte_ext (h x : Int) (i j m : Nat) (hj : j = 8 * (m - 1)) (h1 : 1 ≤ m) (h4 : m ≤ 4) (hi : i < 32) : (if j ≤ i ∧ i < j + 7 then Value.int .u8 h else if i = j + 7 then .int .u8 (if j = 24 then x else h) else if 8 * m ≤ i then (if i = 31 then .int .u8 x else .int .u8 h) else .int .u8 0) = if 8 * (m - 1) ≤ i then (if i = 31 then .int .u8 x else .int .u8 h) else .int .u8 0 := by
  by_cases c : j = 24
  · rw [if_pos c]
    repeat' split
    all_goals first | rfl | (exfalso; omega)
  · rw [if_neg c]
    repeat' split
    all_goals first | rfl | (exfalso; omega)
theorem c39 : Callable 39 := ⟨_, Yba.func39, by kernel_rfl, rfl⟩
theorem c38 : Callable 38 := ⟨_, Yba.func38, by kernel_rfl, rfl⟩
theorem c48 : Callable 48 := ⟨_, Yba.func48, by kernel_rfl, rfl⟩
theorem c64 : Callable 64 := ⟨_, Yba.func64, by kernel_rfl, rfl⟩
theorem c22 : Callable 22 := ⟨_, Yba.func22, by kernel_rfl, rfl⟩
theorem c23 : Callable 23 := ⟨_, Yba.func23, by kernel_rfl, rfl⟩
set_option maxRecDepth 100000 in
theorem distance_any (lo k : Nat) (w : World) (hk : k ≤ 255) (hl : lo ≤ 255) : Calls Yba.prog 39 #[keyV lo, keyV k] w fun e w' => e = .returned (.agg (dC (dh k lo) (dx k lo)).toArray) ∧ Below w.heap.size w w' := by
  have hdh : dh k lo = 0 ∨ dh k lo = 255 := by unfold dh; split <;> simp
  have hdx : 0 ≤ dx k lo ∧ dx k lo ≤ 255 := by unfold dx; split <;> omega
  refine enter (args := [keyV lo, keyV k]) Yba.func39 rfl 32 Yba.ntmps39 rfl fun a hA => ?_
  refine sq ?_
  refine st hA (wn rfl) rfl rfl (x_box rfl (mk_box (keyC lo) _)) fun a w1 hA m1 => ?_
  refine st hA (wn rfl) rfl rfl (x_box rfl (mk_box (keyC k) _)) fun a w2 hA m2 => ?_
  refine st hA (wn rfl) rfl rfl (x_alloc (mk_alloc _ al40 _)) fun a w3 hA m3 => ?_
  refine fin ?_
  refine sq ?_
  refine st hA (wn rfl) rfl rfl (x_alloc (mk_alloc _ al40 _)) fun a w4 hA m4 => ?_
  refine fin ?_
  have s1 := m1.2.1
  have s2 := m2.2.1
  have s3 := m3.2.1
  have s4 := m4.2.1
  have ra := ((m1.row.below m2.1 (by omega)).below m3.1 (by omega)).below m4.1 (by omega)
  have rb := (m2.row.below m3.1 (by omega)).below m4.1 (by omega)
  have rr := m3.row.below m4.1 (by omega)
  have rd := m4.row
  have hB4 : Below w.heap.size w w4 := ((m1.1.trans (m2.1.mono (by omega))).trans (m3.1.mono (by omega))).trans (m4.1.mono (by omega))
  generalize hba : w.heap.size = ba at *
  generalize hbb : w1.heap.size = bb at *
  generalize hbr : w2.heap.size = br at *
  generalize hbd : w3.heap.size = bd at *
  refine sq ?_
  refine st0 hA (wn rfl) rfl rfl (x_as rfl) fun a hA => ?_
  refine fin ?_
  refine wp_seq ?_
  refine sq ?_
  refine st0 hA (wn rfl) rfl rfl (x_as rfl) fun a hA => ?_
  refine fin ?_
  refine lpb (fun m a w' => m ≤ 4 ∧ At a 32 [(2, .pointer (some ⟨ba, 0, none⟩)), (3, .pointer (some ⟨bb, 0, none⟩)), (4, .pointer (some ⟨br, 0, none⟩)), (5, .pointer (some ⟨bd, 0, none⟩)), (6, .int .u64 (if m = 4 then 0 else db k lo)), (7, .int .i64 (8 * (m : Int) - 8))] ∧ Below ba w w' ∧
    Row w' ba 40 32 (fun i => (keyC lo).getD i undef) ∧ Row w' bb 40 32 (fun i => (keyC k).getD i undef) ∧ Row w' br 40 32 (fun i => (zs 32 (.int .u8 0)).getD i undef) ∧ Row w' bd 40 32 (fun i => if 8 * m ≤ i then (if i = 31 then .int .u8 (dx k lo) else .int .u8 (dh k lo)) else .int .u8 0)) 4 ?_ ?_
  · refine ⟨Nat.le_refl _, hA.pick [2, 3, 4, 5, 6, 7], hB4, ra, rb, rr, rd.ext fun i hi => ?_⟩
    have hi' : i < 32 := hi
    rw [if_neg (by omega), zs, List.getD_eq_getElem?_getD, List.getElem?_replicate, if_pos hi']
    rfl
  rintro m a w5 ⟨hm, hA, hB, ra, rb, rr, rd⟩
  refine wp_seq ?_
  by_cases h0 : m = 0
  · subst h0
    refine sq ?_
    refine st0 hA (wn rfl) rfl rfl (x_mv rfl) fun a hA => ?_
    refine st0 hA (wn rfl) rfl rfl (x_bin rfl rfl (geq3F _ _ _ _ (by omega))) fun a hA => ?_
    refine fin ?_
    refine cdfe hA rfl ?_
    refine x_th (xin (n_th ?_))
    have hcs : ∀ j v, (dC (dh k lo) (dx k lo))[j]? = some v → 0 + j < 32 ∧ (if 8 * 0 ≤ 0 + j then (if 0 + j = 31 then Value.int .u8 (dx k lo) else .int .u8 (dh k lo)) else .int .u8 0) = v := fun j v hj => by
      obtain ⟨h1, h2⟩ := dC_get _ _ hj
      refine ⟨by omega, ?_⟩
      rw [if_pos (by omega), Nat.zero_add, h2]
    refine sq ?_
    refine st0 hA (wn rfl) rfl rfl (x_load rfl (rd.load (dC (dh k lo) (dx k lo)) Yba.underlying40 rfl (by rw [dC_len]; exact info40) hcs)) fun a hA => ?_
    refine stn hA (wn rfl) rfl (x_store rfl rfl (rr.store (dC (dh k lo) (dx k lo)) (by rw [dC_len]; exact info40) (dC_one _ _) (by rw [dC_len]; omega))) fun w6 ⟨u6, r6⟩ => ?_
    refine fin ?_
    refine wp_ret ?_
    refine rtc hA rfl rfl r6 (dC (dh k lo) (dx k lo)) Yba.underlying40 rfl (by rw [dC_len]; exact info40) (cells_all (by rw [dC_len]; omega)) ⟨rfl, ?_⟩
    exact hB.trans (u6.below (by omega))
  · obtain ⟨j, hj, hje⟩ : ∃ j : Nat, 8 * (m : Int) - 8 = (j : Int) ∧ j = 8 * (m - 1) := ⟨8 * (m - 1), by omega, rfl⟩
    have hj4 : j = 0 ∨ j = 8 ∨ j = 16 ∨ j = 24 := by omega
    have hm4 : (if m = 4 then 0 else db k lo) = if j = 24 then 0 else db k lo := by
      by_cases e : m = 4
      · rw [if_pos e, if_pos (by omega)]
      · rw [if_neg e, if_neg (by omega)]
    rw [hj, hm4] at hA
    refine sq ?_
    refine st0 hA (wn rfl) rfl rfl (x_mv rfl) fun a hA => ?_
    refine st0 hA (wn rfl) rfl rfl (x_bin rfl rfl (geq3T _ _ _ _ (by omega))) fun a hA => ?_
    refine fin ?_
    refine cdts hA rfl ?_
    refine sqb ?_
    refine sq ?_
    refine st0 hA (wn rfl) rfl rfl (x_as rfl) fun a hA => ?_
    refine fin ?_
    have la : Low8 w5 ba j (if j = 24 then (lo : Int) else 0) := key_low8 ra j hj4
    have lb : Low8 w5 bb j (if j = 24 then (k : Int) else 0) := key_low8 rb j hj4
    have ba1 : (0 : Int) ≤ (if j = 24 then (lo : Int) else 0) ∧ (if j = 24 then (lo : Int) else 0) ≤ 255 := by split <;> omega
    have bb1 : (0 : Int) ≤ (if j = 24 then (k : Int) else 0) ∧ (if j = 24 then (k : Int) else 0) ≤ 255 := by split <;> omega
    refine wp_seq ?_
    refine drawnV (lv := [(6, .int .u64 (if j = 24 then 0 else db k lo))]) [.agg ([] : List Value).toArray, .int .i64 (j : Int), .slice (some ⟨bb, j, none⟩) (32 - j) (32 - j), .int .u64 (if j = 24 then (k : Int) else 0), .agg ([] : List Value).toArray, .int .i64 (j : Int), .slice (some ⟨ba, j, none⟩) (32 - j) (32 - j), .int .u64 (if j = 24 then (lo : Int) else 0), .int .u64 (if j = 24 then 0 else db k lo),
      .tuple #[.int .u64 (wordOf (dh k lo) (if j = 24 then dx k lo else dh k lo)), .int .u64 (db k lo)], .tuple #[.int .u64 (wordOf (dh k lo) (if j = 24 then dx k lo else dh k lo)), .int .u64 (db k lo)], .int .u64 (wordOf (dh k lo) (if j = 24 then dx k lo else dh k lo)), .int .u64 (db k lo), .int .u64 (wordOf (dh k lo) (if j = 24 then dx k lo else dh k lo)), .int .u64 (db k lo)]
      (fun w' => Below w5.heap.size w5 w') (hA.pick [2, 3, 4, 5, 7]) (hA.pick [6]) mixed rfl (Below.refl _ _).drew ?_ ?_
    · refine each_cons (dv0 rfl [] [] rfl rfl (wn rfl) fun w hS => (x_load rfl (load163 _))) ?_
      refine each_cons (dv0 rfl [] [] rfl rfl (wn rfl) fun w hS => (x_mv rfl)) ?_
      refine each_cons (dv0 rfl [(15, 1)] [] rfl rfl (wn rfl) fun w hS => (x_slice rfl rfl rfl rfl (sl40 _ _ _ hj4))) ?_
      refine each_cons (dv1 rfl [(14, 0), (16, 2)] [] rfl rfl (wn rfl) fun w hS => (x_call (cap := []) rfl rfl c50 ((uint64_any bb j (32 - j) (32 - j) _ w bb1.1 bb1.2 (by omega) (lb.below hS lb.lt)).mono fun e w' h => ⟨h.1, hS.trans (h.2.mono hS.size)⟩))) ?_
      refine each_cons (dv0 rfl [] [] rfl rfl (wn rfl) fun w hS => (x_load rfl (load163 _))) ?_
      refine each_cons (dv0 rfl [] [] rfl rfl (wn rfl) fun w hS => (x_mv rfl)) ?_
      refine each_cons (dv0 rfl [(19, 5)] [] rfl rfl (wn rfl) fun w hS => (x_slice rfl rfl rfl rfl (sl40 _ _ _ hj4))) ?_
      refine each_cons (dv1 rfl [(18, 4), (20, 6)] [] rfl rfl (wn rfl) fun w hS => (x_call (cap := []) rfl rfl c50 ((uint64_any ba j (32 - j) (32 - j) _ w ba1.1 ba1.2 (by omega) (la.below hS la.lt)).mono fun e w' h => ⟨h.1, hS.trans (h.2.mono hS.size)⟩))) ?_
      refine each_cons (dv0 rfl [] [6] rfl rfl (wn rfl) fun w hS => (x_mv rfl)) ?_
      refine each_cons (dv0 rfl [(17, 3), (21, 7), (22, 8)] [] rfl rfl (wn rfl) fun w hS => (x_callv rfl (sub_word k lo (j = 24) w hk hl))) ?_
      refine each_cons (dv0 rfl [(23, 9)] [] rfl rfl (wn rfl) fun w hS => (x_mv rfl)) ?_
      refine each_cons (dv0 rfl [(13, 10)] [] rfl rfl (wn rfl) fun w hS => (x_ext rfl rfl)) ?_
      refine each_cons (dv0 rfl [(13, 10)] [] rfl rfl (wn rfl) fun w hS => (x_ext rfl rfl)) ?_
      refine each_cons (dv0 rfl [(24, 11)] [] rfl rfl (wn rfl) fun w hS => (x_as rfl)) ?_
      refine each_cons (dv0 rfl [(25, 12)] [] rfl rfl (wn rfl) fun w hS => (x_as rfl)) ?_
      exact each_nil
    intro a w6 hA hS6
    refine n_th ?_
    have ra6 := ra.below hS6 ra.lt
    have rb6 := rb.below hS6 rb.lt
    have rr6 := rr.below hS6 rr.lt
    have rd6 := rd.below hS6 rd.lt
    have hba5 : ba ≤ w5.heap.size := by rw [← hba]; exact hB.size
    have hB6 := hB.trans (hS6.mono hba5)
    have hxj : (0 : Int) ≤ (if j = 24 then dx k lo else dh k lo) ∧ (if j = 24 then dx k lo else dh k lo) ≤ 255 := by split <;> omega
    have hput := put64_any bd j (32 - j) (32 - j) 40 32 _ (dh k lo) (if j = 24 then dx k lo else dh k lo) w6.drew hdh hxj.1 hxj.2 (by omega) (by omega) rd6 ⟨_, if_neg (by omega)⟩
    have hls : w5.heap.size ≤ w6.heap.size := hS6.size
    have lr := rr6.lt
    have ld := rd6.lt
    refine drawn_last [.agg ([] : List Value).toArray, .int .i64 (j : Int), .slice (some ⟨bd, j, none⟩) (32 - j) (32 - j), .int .u64 (wordOf (dh k lo) (if j = 24 then dx k lo else dh k lo)), .tuple #[]] 4 (· = w6.drew)
      (fun w' => w'.heap.size = w6.heap.size + 1 ∧ (∀ k, k < w6.heap.size → k ≠ bd → w'.heap[k]? = w6.heap[k]?) ∧ w'.os = w6.os ∧ w'.tape = w6.tape ∧ w'.output = w6.output ∧ Row w' bd 40 32 (fun i => if j ≤ i ∧ i < j + 7 then .int .u8 (dh k lo) else if i = j + 7 then .int .u8 (if j = 24 then dx k lo else dh k lo) else if 8 * m ≤ i then (if i = 31 then .int .u8 (dx k lo) else .int .u8 (dh k lo)) else .int .u8 0))
      (hA.pick [2, 3, 4, 5, 6, 7, 8]) mixed rfl rfl rfl rfl ?_ ?_
    · refine each_cons (do0 rfl [] rfl (wn rfl) fun w hS => (x_load rfl (load163 _))) ?_
      refine each_cons (do0 rfl [] rfl (wn rfl) fun w hS => (x_mv rfl)) ?_
      refine each_cons (do0 rfl [(27, 1)] rfl (wn rfl) fun w hS => (x_slice rfl rfl rfl rfl (sl40 _ _ _ hj4))) ?_
      refine each_cons (do0 rfl [] rfl (wn rfl) fun w hS => (x_mv rfl)) ?_
      refine each_cons (do1 rfl [(26, 0), (28, 2), (29, 3)] rfl (wn rfl) fun w hS => (x_call (cap := []) rfl rfl c51 (by subst hS; exact hput))) ?_
      exact each_nil
    intro a w7 hA ⟨z1, z2, z3, z4, z5, z6⟩
    refine n_in (n_th ?_)
    refine rg ?_
    refine st0 hA (wn rfl) rfl rfl (x_mv rfl) fun a hA => ?_
    refine st0 hA (wn rfl) rfl rfl (x_bin rfl rfl (sub3 _ _ _ _ (by omega) (by omega))) fun a hA => ?_
    refine st0 hA (wn rfl) rfl rfl (x_as rfl) fun a hA => ?_
    refine fin0 ?_
    have e1 : (j : Int) - 8 = 8 * ((m - 1 : Nat) : Int) - 8 := by omega
    have e2 : db k lo = if m - 1 = 4 then 0 else db k lo := by rw [if_neg (by omega)]
    rw [e1, e2] at hA
    refine ⟨m - 1, by omega, by omega, hA.pick [2, 3, 4, 5, 6, 7], ?_, ra6.keep (z2 _ (by omega) (by omega)), rb6.keep (z2 _ (by omega) (by omega)), rr6.keep (z2 _ (by omega) (by omega)), z6.ext fun i hi => ?_⟩
    · exact hB6.trans ⟨z3, z4, z5, by omega, fun i hi => z2 i (by omega) (by omega)⟩
    · exact byte_ext (dh k lo) (dx k lo) i j m hje (by omega) hm hi
end Go.Proofs.Ybulkcrtu
