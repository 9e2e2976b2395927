import Derived.Test.YbulkcrtuSE
namespace Go.Proofs.Ybulkcrtu
open Go.RowKit

/-- The slice v holds the numbers xs. -/
def Ints (w : World) (v : Value) (xs : List Int) : Prop := ∃ p c, v = .slice p xs.length c ∧ ∀ k x, xs[k]? = some x → ∃ b o, p = some ⟨b, o, none⟩ ∧ w.cell? ⟨b, o + k, none⟩ = some (.int .i64 x)
theorem Ints.below {w w' : World} {v : Value} {xs : List Int} (h : Ints w v xs) (hb : Below w.heap.size w w') : Ints w' v xs := by
  obtain ⟨p, c, h1, h2⟩ := h
  refine ⟨p, c, h1, fun k x hk => ?_⟩
  obtain ⟨b, o, h3, h4⟩ := h2 k x hk
  exact ⟨b, o, h3, by rw [hb.cell (World.block_lt_of_cell? w _ h4)]; exact h4⟩
def nearV (bs bi bn : Nat) : Value := .func (.func 21) #[] #[.pointer (some ⟨bs, 0, none⟩), .pointer (some ⟨bi, 0, none⟩), .pointer (some ⟨bn, 0, none⟩)]
set_option maxRecDepth 100000 in
theorem index_near (i n : Int) (wr : Bool) (bs bi bw bn : Nat) (v : Value) (xs : List Int) (w : World) (hi : 0 ≤ i ∧ i ≤ 500) (hx : ∀ o ∈ xs, 0 ≤ o ∧ o ≤ 500) (hlen : xs.length ≤ 500) (hn : 1 ≤ n ∧ n ≤ 500)
    (hv : Ints w v xs) (hs : Row w bs 126 1 (fun _ => stepV bw bn)) (hri : Row w bi 3 1 (fun _ => .int .i64 i)) (hw : Row w bw 4 1 (fun _ => .bool wr)) (hr : Row w bn 3 1 (fun _ => .int .i64 n)) :
    Calls Yba.prog 37 #[v, nearV bs bi bn] w fun e w' => (∃ r : Int, e = .returned (.int .i64 r) ∧ decide (r ≥ 0) = xs.any (fun o => near i o n wr)) ∧ Below w.heap.size w w' := by
  refine enter (args := [v, nearV bs bi bn]) Yba.func37 rfl 19 Yba.ntmps37 rfl fun a hA => ?_
  refine sq ?_
  refine st0 hA (wn rfl) rfl rfl (x_as rfl) fun a hA => ?_
  refine fin ?_
  refine wp_seq ?_
  obtain ⟨p, c, rfl, _⟩ := id hv
  refine sq ?_
  refine st0 hA (wn rfl) rfl rfl (x_mv rfl) fun a hA => ?_
  refine st0 hA (wn rfl) rfl rfl (x_len rfl Yba.underlying60) fun a hA => ?_
  refine st0 hA (wn rfl) rfl rfl (x_mv rfl) fun a hA => ?_
  refine fin ?_
  refine lpb (fun m a w' => ∃ k : Nat, k + m = xs.length ∧ At a 19 [(0, .slice p xs.length c), (1, nearV bs bi bn), (6, .slice p xs.length c), (7, .int .i64 xs.length), (8, .int .i64 k)] ∧ Below w.heap.size w w' ∧ ∀ j x, j < k → xs[j]? = some x → near i x n wr = false) xs.length ⟨0, by omega, hA.pick [0, 1, 6, 7, 8], Below.refl _ _, fun j x h => by omega⟩ ?_
  rintro m a w1 ⟨k, hk, hA, hB, hno⟩
  by_cases hlt : k < xs.length
  · refine sq ?_
    refine st0 hA (wn rfl) rfl rfl (x_bin rfl rfl (lss3T _ _ _ _ (by omega))) fun a hA => ?_
    refine fin ?_
    refine sqts hA rfl ?_
    refine sqb ?_
    refine sq ?_
    refine st0 hA (wn rfl) rfl rfl (x_mv rfl) fun a hA => ?_
    refine st0 hA (wn rfl) rfl rfl (x_as rfl) fun a hA => ?_
    refine fin ?_
    obtain ⟨x, hxk⟩ : ∃ x, xs[k]? = some x := ⟨_, List.getElem?_eq_getElem hlt⟩
    obtain ⟨p', c', he, hcl⟩ := hv.below hB
    obtain ⟨b, o, hp, hcell⟩ := hcl k x hxk
    simp only [Value.slice.injEq] at he
    obtain ⟨rfl, _, rfl⟩ := he
    subst hp
    have hxb := hx x (List.mem_of_getElem? hxk)
    have hcall := near_any i x n wr bs bi bw bn w1 hi hxb hn (hs.below hB hs.lt) (hri.below hB hri.lt) (hw.below hB hw.lt) (hr.below hB hr.lt)
    refine sq ?_
    refine st0 hA (wn rfl) rfl rfl (x_mv rfl) fun a hA => ?_
    refine st0 hA (wn rfl) rfl rfl (x_mv rfl) fun a hA => ?_
    refine st0 hA (wn rfl) rfl rfl (x_mv rfl) fun a hA => ?_
    refine st0 hA (wn rfl) rfl rfl (x_idx rfl rfl (idxS _ _ _ _ _ _ Yba.underlying60 sz3 hlt)) fun a hA => ?_
    refine st0 hA (wn rfl) rfl rfl (x_load rfl (load_cell ag3 _ _ _ (by rw [Nat.mul_one]; exact hcell))) fun a hA => ?_
    refine st hA (wn rfl) rfl rfl (x_call (cap := [.pointer (some ⟨bs, 0, none⟩), .pointer (some ⟨bi, 0, none⟩), .pointer (some ⟨bn, 0, none⟩)]) rfl rfl c21 hcall) fun a w2 hA hB2 => ?_
    refine fin ?_
    have hB' := hB.trans (hB2.mono hB.size)
    cases hq : near i x n wr with
    | true =>
      rw [hq] at hA
      refine cdt hA rfl ?_
      refine sq ?_
      refine st0 hA (wn rfl) rfl rfl (x_mv rfl) fun a hA => ?_
      refine st0 hA (wn rfl) rfl rfl (x_as rfl) fun a hA => ?_
      refine fin ?_
      refine wp_ret (r_in (r_th (r_th (r_in (r_th ?_)))))
      refine rt hA rfl rfl ⟨⟨k, rfl, ?_⟩, hB'⟩
      have : xs.any (fun o => near i o n wr) = true := List.any_eq_true.2 ⟨x, List.mem_of_getElem? hxk, hq⟩
      rw [this]
      simp
    | false =>
      rw [hq] at hA
      refine cdfz hA rfl (n_in (n_th ?_))
      refine rg ?_
      refine st0 hA (wn rfl) rfl rfl (x_bin rfl rfl (add3 _ _ _ _ (by omega) (by omega))) fun a hA => ?_
      refine st0 hA (wn rfl) rfl rfl (x_mv rfl) fun a hA => ?_
      refine fin0 ?_
      refine ⟨m - 1, by omega, k + 1, by omega, hA.pick [0, 1, 6, 7, 8], hB', fun j y hj hy => ?_⟩
      by_cases e : j = k
      · subst e
        rw [hxk] at hy
        obtain rfl := Option.some.inj hy
        exact hq
      · exact hno j y (by omega) hy
  · refine sq ?_
    refine st0 hA (wn rfl) rfl rfl (x_bin rfl rfl (lss3F _ _ _ _ (by omega))) fun a hA => ?_
    refine fin ?_
    refine sqfe hA rfl ?_
    refine x_th (xin (n_th ?_))
    refine sq ?_
    refine st0 hA (wn rfl) rfl rfl (x_as rfl) fun a hA => ?_
    refine fin ?_
    refine wp_ret (rt hA rfl rfl ⟨⟨-1, rfl, ?_⟩, hB⟩)
    have : xs.any (fun o => near i o n wr) = false := by
      rw [List.any_eq_false]
      intro x hxm
      obtain ⟨j, hj⟩ := List.getElem?_of_mem hxm
      have := hno j x (by have := (List.getElem?_eq_some_iff.1 hj).1; omega) hj
      rw [this]
      simp
    rw [this]
    rfl

/-- A call whose result is one of many. -/
theorem st_call {ops : Array Oper} {Q : Exit → Act → World → Prop} {rest : List Oper} {dz : Option Tmp} {ty : TypeId} {pz : String} {af : Array Edge} {gz : Option (Nat × Bool)} {c : Operand} {f : FuncId} {cap : List Value} {xs : List Operand} {ts : Array TypeId} {vs : List Value} {a : Act} {w : World} {N k : Nat} {l : List (Nat × Value)} {T : Value → World → Prop}
    (hA : At a N l) (hw : Wants ops l ⟨dz, .call { callee := .value c, args := xs.toArray, argTypes := ts }, ty, pz, af, gz⟩) (hp : dz = some k) (hk : Nat.blt k N = true) (hcl : ev l c = some (.func (.func f) #[] cap.toArray)) (hx : evs l xs = some vs) (hf : Callable f)
    (hc : Calls Yba.prog f (vs ++ cap).toArray w fun e w' => ∃ v, e = .returned v ∧ T v w') (h : ∀ a' w' v, At a' N ((k, v) :: l) → T v w' → wpList Yba.prog ops Q rest a' w') : wpList Yba.prog ops Q (⟨dz, .call { callee := .value c, args := xs.toArray, argTypes := ts }, ty, pz, af, gz⟩ :: rest) a w := by
  refine wpList_step fun K hK => ?_
  rw [if_pos (hw a N hA)]
  have e : (xs.toArray.map a.eval) = vs.toArray := by simpa using congrArg List.toArray (hA.evs hx)
  have hrun : (execOp a.eval ⟨dz, .call { callee := .value c, args := xs.toArray, argTypes := ts }, ty, pz, af, gz⟩).run Yba.prog w = .ok (.enter f (vs ++ cap).toArray) w := by
    unfold execOp
    simp only [resolve, hA.ev hcl, Deferred.ofValue, e, Sem.run_bind, Sem.run_pure, Result.andThen_ok, invoke]
    have := run_callFunc hf (vs ++ cap).toArray w
    simpa using this
  unfold Oper.wp
  rw [hrun]
  refine hc.mono ?_
  rintro e' w' ⟨v, rfl, hT⟩
  refine hK _ _ (h _ _ v ?_ hT)
  subst hp
  exact hA.put k v hk
set_option maxRecDepth 100000 in
theorem any_near (i n : Int) (wr : Bool) (bs bi bw bn : Nat) (v : Value) (xs : List Int) (w : World) (hi : 0 ≤ i ∧ i ≤ 500) (hx : ∀ o ∈ xs, 0 ≤ o ∧ o ≤ 500) (hlen : xs.length ≤ 500) (hn : 1 ≤ n ∧ n ≤ 500)
    (hv : Ints w v xs) (hs : Row w bs 126 1 (fun _ => stepV bw bn)) (hri : Row w bi 3 1 (fun _ => .int .i64 i)) (hw : Row w bw 4 1 (fun _ => .bool wr)) (hr : Row w bn 3 1 (fun _ => .int .i64 n)) :
    Calls Yba.prog 20 #[v, nearV bs bi bn] w fun e w' => e = .returned (.bool (xs.any (fun o => near i o n wr))) ∧ Below w.heap.size w w' := by
  refine enter (args := [v, nearV bs bi bn]) Yba.func20 rfl 9 Yba.ntmps20 rfl fun a hA => ?_
  have hc := index_near i n wr bs bi bw bn v xs w hi hx hlen hn hv hs hri hw hr
  refine sq ?_
  refine st0 hA (wn rfl) rfl rfl (x_as rfl) fun a hA => ?_
  refine fin ?_
  refine sq ?_
  refine st0 hA (wn rfl) rfl rfl (x_mv rfl) fun a hA => ?_
  refine st0 hA (wn rfl) rfl rfl (x_mv rfl) fun a hA => ?_
  refine st_call (cap := []) (T := fun u w' => (∃ r : Int, u = .int .i64 r ∧ decide (r ≥ 0) = xs.any (fun o => near i o n wr)) ∧ Below w.heap.size w w') hA (wn rfl) rfl rfl rfl rfl c37 (hc.mono ?_) fun a w1 u hA T1 => ?_
  · rintro e w' ⟨⟨r, h1, h2⟩, h3⟩
    exact ⟨_, h1, ⟨r, rfl, h2⟩, h3⟩
  obtain ⟨⟨r, rfl, hr'⟩, hB⟩ := T1
  refine st0 hA (wn rfl) rfl rfl (x_bin rfl rfl (geq3 _ _ _ _)) fun a hA => ?_
  refine st0 hA (wn rfl) rfl rfl (x_as rfl) fun a hA => ?_
  refine fin ?_
  refine wp_ret (rt hA rfl rfl ⟨?_, hB⟩)
  rw [hr']
end Go.Proofs.Ybulkcrtu
