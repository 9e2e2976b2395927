import Derived.Test.YbulkcrtuF
namespace Go.Proofs.Ybulkcrtu
open Go.RowKit Go.ChangeMaps Go.MapKept Go.MuLone

theorem ownsRow_blk {w w' : World} {base e size n : Nat} {v : Value} {xs : List Value} (h : w.ownsRow base e size v n xs) (hb : ∀ g, v.ownBlock = some g → w'.heap[g]? = w.heap[g]?) : w'.ownsRow base e size v n xs := by
  refine ⟨h.1, ?_⟩
  rcases h.2 with h | ⟨g, cap, cur, e1, e2, hg, r⟩
  · exact .inl h
  · exact .inr ⟨g, cap, cur, e1, e2, (hb g (by rw [e1]; rfl)).trans hg, r⟩
theorem wpR_put {P : Program} {Q : Exit → Act → World → Prop} {a : Act} {w w' : World} {ops : Array Oper} {i : Nat} {rest : List Nat} {o : Oper} (d : Tmp) (v : Value) (ho : ops[i]? = some o) (hg : o.guard = none) (hd : o.dst = some d) (hr : (execOp a.eval o).run P w = .ok (.value v) w') (h : wpR P ops Q rest (a.put (some d) v) w') : wpR P ops Q (i :: rest) a w :=
  wpR_val ho hg hr (by rw [hd]; exact h)
theorem agg71 (w : World) : (isAgg 71).run Yba.prog w = .ok false w := by kernel_rfl
theorem field96_8 (w : World) (b : Nat) : (Instr.fieldAt 96 (.pointer (some ⟨b, 0, none⟩)) 8).run Yba.prog w = .ok (.pointer (some ⟨b, 13, none⟩)) w := by kernel_rfl
theorem exec_recv {ρ : Operand → Value} {o : Oper} {x : Operand} {w : World} {c : Nat} (ho : o.op = .recv 71 x false) (hx : ρ x = .chan (some c)) : (execOp ρ o).run Yba.prog w = .ok (.comm #[Go.Conc.rcase c (.agg #[])] true (.recv false)) w := by
  unfold execOp
  simp only [ho, hx]
  simp [go_sem, Go.Conc.rcase]
/-- What Forget leaves behind a call that was registered. -/
def FYes (w : World) (M ch Ma b n sz cnt s r : Nat) (id port : Int) (ans : Bool) (blk : Int → Option Nat) (buf : Array Value) (e : Ending) (w' : World) : Prop :=
  e = .returned (.tuple #[]) ∧ w'.os = w.os ∧ w'.tape = w.tape ∧ w'.output = w.output ∧ w.heap.size ≤ w'.heap.size ∧ (∀ q, q < w.heap.size → q ≠ M → q ≠ ch → q ≠ Ma → q ≠ b → w'.heap[q]? = w.heap[q]?) ∧
  MapU w' M n (sz - 1) (delU (fOf blk) id) ∧ w'.heap[ch]? = some (.chan 1024 (buf.extract 1 buf.size) false s (r + 1) false) ∧
  ((ans = false ∧ 0 < cnt ∧ ∃ N a cap, w'.heap[N]? = some (.cells (elemL b (.iface 143 (.agg (remC id 0 0 none port a cnt cap)))) 145 (0, 0)) ∧ w'.heap[b]? = some (.cells (oneL N) 151 (0, 0)) ∧ w'.ownsRow w.heap.size 118 3 (.slice a cnt cap) cnt (tcells cnt)) ∨ ((ans = true ∨ cnt = 0) ∧ w'.heap[b]? = w.heap[b]?))

set_option maxRecDepth 100000 in
set_option maxHeartbeats 2000000 in
theorem forget_yes (T c S ch M Ma b n sz cnt : Nat) (id port : Int) (ans : Bool) (blk : Int → Option Nat) (cs : Array Value) (buf : Array Value) (s r : Nat) (w : World) (hid : Id id) (hT : w.heap[T]? = some (.cells (trC 0 ch M Ma b) 96 (0, 0))) (hc : w.heap[c]? = some (.cells cs 114 (0, 0))) (h1 : cs[1]? = some (.int .u32 id))
    (t0 : cs[259]? = some (.int .u64 0)) (t1 : cs[260]? = some (.int .u64 0)) (t2 : cs[261]? = some (.pointer none)) (t3 : cs[262]? = some (.int .u16 port)) (h268 : cs[268]? = some (.int .i32 0)) (h271 : cs[271]? = some (.slice (some ⟨S, 0, none⟩) cnt cnt)) (h272 : cs[272]? = some (.bool ans)) (hcnt : cnt ≤ 5) (hS : w.heap[S]? = some (.cells (tcells cnt).toArray 118 (0, 0)))
    (hM : MapU w M n sz (fOf blk)) (hbc : blk id = some c) (hch : w.heap[ch]? = some (.chan 1024 buf false s r false)) (hbuf : 0 < buf.size) (hMa : MapU w Ma 0 0 (fun _ => none)) (hb : w.heap[b]? = some (.cells (emptyL b) 151 (0, 0))) (hMMa : M ≠ Ma) :
    Calls Yba.prog 15 #[.pointer (some ⟨T, 0, none⟩), .pointer (some ⟨c, 0, none⟩)] w (FYes w M ch Ma b n sz cnt s r id port ans blk buf) := by
  have hTl := (Array.getElem?_eq_some_iff.1 hT).1
  have hcT : c ≠ T := fun e => by rw [e, hT] at hc; simp at hc
  have hMT : M ≠ T := fun e => by obtain ⟨_, _, h⟩ := hM.map; rw [e, hT] at h; cases h
  have k0 : w.cell? ⟨T, 14, none⟩ = some (.int .i32 0) := cell_of_row w T 14 _ _ _ hT
  have f0 := frozen_of_row w T 14 _ _ hT
  obtain ⟨W, hWd⟩ : ∃ W, W = w.setCell ⟨T, 14, none⟩ (.int .i32 1) := ⟨_, rfl⟩
  have hlk := lock_free muLib ⟨T, 14, none⟩ w k0 f0
  rw [← hWd] at hlk
  have hTW : W.heap[T]? = some (.cells (trC 1 ch M Ma b) 96 (0, 0)) := by rw [hWd]; exact heap_setCell_same _ _ _ _ _ _ hT
  have hWo : ∀ q, q ≠ T → W.heap[q]? = w.heap[q]? := fun q hq => by rw [hWd]; exact heap_setCell_other _ _ _ _ hq
  have hWs : W.heap.size = w.heap.size := by rw [hWd]; simp [World.setCell]
  have hWx : W.os = w.os ∧ W.tape = w.tape ∧ W.output = w.output := by rw [hWd]; exact ⟨rfl, rfl, rfl⟩
  have hMW : MapU W M n sz (fOf blk) := hM.of_block (hWo M hMT)
  have hcW : W.heap[c]? = some (.cells cs 114 (0, 0)) := (hWo c hcT).trans hc
  have k16 : W.cell? ⟨T, 16, none⟩ = some (.map (some M)) := cell_of_row W T 16 _ _ _ hTW
  have kc1 : W.cell? ⟨c, 1, none⟩ = some (.int .u32 id) := (cell_of_row W c 1 _ _ _ hcW).trans h1
  have hll : ∀ m, (Instr.lookup 72 (.map (some M)) (.int .u32 id) false).run Yba.prog (W.drewN m) = .ok (.pointer (some ⟨c, 0, none⟩)) (W.drewN m) := fun m => by
    have := (hMW.of_block (w' := W.drewN m) rfl).look Yba.underlying72 (zero97 _) hid
    rw [fOf_getD, hbc] at this
    exact this
  have heq : ∀ m, (binOp .eql 97 (.pointer (some ⟨c, 0, none⟩)) (.pointer (some ⟨c, 0, none⟩))).run Yba.prog (W.drewN m) = .ok (.bool true) (W.drewN m) := fun m => by
    have := eql97 (w := W.drewN m) (p := some c) (q := some c) (fun d hd => by obtain rfl := Option.some.inj hd; exact ⟨cs, hcW⟩) (fun d hd => by obtain rfl := Option.some.inj hd; exact ⟨cs, hcW⟩)
    rw [decide_eq_true rfl] at this
    exact this
  clear hWd
  refine calls_of_wpN Yba.func15 rfl ?_
  simp only [Yba.ntmps15, List.size_toArray, List.length_cons, List.length_nil, Nat.reduceAdd, Nat.reduceSub, Array.replicate_succ, Array.replicate_zero, List.push_toArray, List.append_toArray, List.nil_append, List.cons_append]
  refine wpN_seq (wpN_of ?_)
  go_wp2_with (first
    | (go_at_call 30; refine hlk.mono ?_; rintro e w' ⟨rfl, hw'⟩; subst hw')
    | fail)
  rename World => X
  refine wpN_seq (wpN_seq (wpN_of ?_))
  go_quiet (fail)
  refine wpN_cond true rfl ?_
  rw [if_pos rfl]
  refine wpN_seq (wpN_of ?_)
  obtain ⟨Y, hYd⟩ : ∃ Y, Y = X.drewN nq := ⟨_, rfl⟩
  have y16 : Y.cell? ⟨T, 16, none⟩ = some (.map (some M)) := by rw [hYd]; exact k16
  have yc1 : Y.cell? ⟨c, 1, none⟩ = some (.int .u32 id) := by rw [hYd]; exact kc1
  have hMY : MapU Y.drew M n sz (fOf blk) := by rw [hYd]; exact hMW.of_block rfl
  have hTY : Y.heap[T]? = some (.cells (trC 1 ch M Ma b) 96 (0, 0)) := by rw [hYd]; exact hTW
  have hYo : ∀ q, q ≠ T → Y.heap[q]? = w.heap[q]? := by rw [hYd]; exact hWo
  have hYs : Y.heap.size = w.heap.size := by rw [hYd]; exact hWs
  have hYx : Y.os = w.os ∧ Y.tape = w.tape ∧ Y.output = w.output := by rw [hYd]; exact hWx
  rw [← hYd]
  clear hYd hll heq hlk k16 kc1 hMW hTW hWo hWs hWx hcW
  obtain ⟨Z, hdel, hMZ, htZ⟩ := hMY.drop Yba.underlying72 hid (show (fOf blk id).isSome = true by unfold fOf; rw [hbc]; rfl) 0
  go_region_held3 (fun u => u.cell? ⟨T, 16, none⟩ = some (.map (some M)) ∧ u.cell? ⟨c, 1, none⟩ = some (.int .u32 id))
    (first
      | exact ⟨y16, yc1⟩
      | exact ⟨turn_cell htZ hMT.symm y16, turn_cell htZ (fun e => by obtain ⟨_, _, h⟩ := hM.map; rw [← e, hc] at h; cases h) yc1⟩)
    (fail)
  have hchT : ch ≠ T := fun e => by rw [e, hT] at hch; cases hch
  have hchM : ch ≠ M := fun e => by obtain ⟨_, _, h⟩ := hM.map; rw [← e, hch] at h; cases h
  have hgZ := htZ.grown
  have hTZ : Z.heap[T]? = some (.cells (trC 1 ch M Ma b) 96 (0, 0)) := (hgZ.block T (by show T < Y.heap.size; omega) (by simpa using hMT.symm)).trans hTY
  have hchl := (Array.getElem?_eq_some_iff.1 hch).1
  have hchZ : Z.heap[ch]? = some (.chan 1024 buf false s r false) := (hgZ.block ch (by show ch < Y.heap.size; omega) (by simpa using hchM)).trans ((hYo ch hchT).trans hch)
  have z13 : Z.cell? ⟨T, 13, none⟩ = some (.chan (some ch)) := cell_of_row Z T 13 _ _ _ hTZ
  refine wpN_seq (wpN_region ?_)
  change wpR _ _ _ [0, 1, 2, 3, 4] _ _
  refine wpR_put 31 (.pointer (some ⟨T, 0, none⟩)) rfl rfl rfl ((exec_move (x := .tmp 0) rfl).trans rfl) ?_
  refine wpR_put 32 (.pointer (some ⟨T, 0, none⟩)) rfl rfl rfl (exec_nil rfl rfl) ?_
  refine wpR_put 33 (.pointer (some ⟨T, 13, none⟩)) rfl rfl rfl (exec_field (field96_8 Z T) rfl rfl) ?_
  refine wpR_put 34 (.chan (some ch)) rfl rfl rfl (exec_load1 (load_cell agg71 Z ⟨T, 13, none⟩ _ z13) rfl rfl) ?_
  refine wpR_recv rfl rfl (exec_recv rfl rfl) rfl hchZ hbuf ?_
  change wpR _ _ _ [] (Act.put _ (some 35) _) _
  refine wpR_nil ?_
  refine wpN_of ?_
  simp only [Act.put, List.setIfInBounds_toArray, List.set_cons_zero, List.set_cons_succ]
  obtain ⟨V, hVd⟩ : ∃ V, V = Z.setChan ch 1024 (buf.extract 1 buf.size) false s (r + 1) false := ⟨_, rfl⟩
  have hZs : Z.heap.size = w.heap.size := by
    obtain ⟨_, _, _, _, _, e⟩ := htZ
    rw [e]
    simpa [setBlock] using hYs
  have hVs : V.heap.size = w.heap.size := by rw [hVd, Go.Conc.size_setChan]; exact hZs
  have hVch : V.heap[ch]? = some (.chan 1024 (buf.extract 1 buf.size) false s (r + 1) false) := by rw [hVd]; exact Go.Conc.heap_setChan _ _ _ _ _ _ _ _ (by omega)
  have hVo : ∀ q, q ≠ ch → V.heap[q]? = Z.heap[q]? := fun q hq => by
    rw [hVd]
    simp only [World.setChan]
    rw [Array.getElem?_setIfInBounds_ne (Ne.symm hq)]
  have hVx : V.os = w.os ∧ V.tape = w.tape ∧ V.output = w.output := by
    rw [hVd]
    exact ⟨hgZ.os.trans hYx.1, hgZ.tape.trans hYx.2.1, hgZ.output.trans hYx.2.2⟩
  have hVw : ∀ q, q < w.heap.size → q ≠ T → q ≠ M → q ≠ ch → V.heap[q]? = w.heap[q]? := fun q hq h1 h2 h3 => (hVo q h3).trans ((hgZ.block q (by show q < Y.heap.size; omega) (by simpa using h2)).trans (hYo q h1))
  have hTV : V.heap[T]? = some (.cells (trC 1 ch M Ma b) 96 (0, 0)) := (hVo T hchT.symm).trans hTZ
  have hMV : MapU V M n (sz - 1) (delU (fOf blk) id) := hMZ.of_block (hVo M hchM.symm)
  have hcl := (Array.getElem?_eq_some_iff.1 hc).1
  have hSl := (Array.getElem?_eq_some_iff.1 hS).1
  have hbl := (Array.getElem?_eq_some_iff.1 hb).1
  have hMal := hMa.lt
  obtain ⟨esM, cM, hMm⟩ := hM.map
  obtain ⟨esA, cA, hAm⟩ := hMa.map
  have hcV : V.heap[c]? = some (.cells cs 114 (0, 0)) := (hVw c hcl hcT (fun e => by rw [e, hMm] at hc; cases hc) (fun e => by rw [e, hch] at hc; cases hc)).trans hc
  have hSV : V.heap[S]? = some (.cells (tcells cnt).toArray 118 (0, 0)) := (hVw S hSl (fun e => by rw [e, hT] at hS; simp at hS) (fun e => by rw [e, hMm] at hS; cases hS) (fun e => by rw [e, hch] at hS; cases hS)).trans hS
  have hbT : b ≠ T := fun e => by rw [e, hT] at hb; simp at hb
  have hbM : b ≠ M := fun e => by rw [e, hMm] at hb; cases hb
  have hbch : b ≠ ch := fun e => by rw [e, hch] at hb; cases hb
  have hbMa : b ≠ Ma := fun e => by rw [e, hAm] at hb; cases hb
  have hMaT : Ma ≠ T := fun e => by rw [e, hT] at hAm; cases hAm
  have hMach : Ma ≠ ch := fun e => by rw [e, hch] at hAm; cases hAm
  have hbV : V.heap[b]? = some (.cells (emptyL b) 151 (0, 0)) := (hVw b hbl hbT hbM hbch).trans hb
  have hMaV : MapU V Ma 0 0 (fun _ => none) := hMa.of_block (hVw Ma hMal hMaT hMMa.symm hMach)
  have hun := unanswered_any c S cnt ans cs V hcV h268 h271 h272 hcnt hSV
  rw [← hVd]
  clear hVd hdel hMY htZ hgZ hTZ hchZ z13 y16 yc1 hTY hYo hYs hYx hMZ hVo
  by_cases hgive : ans = false ∧ 0 < cnt
  · obtain ⟨rfl, hc0⟩ := hgive
    have hdd : (!false && decide (0 < cnt)) = true := by simpa using hc0
    rw [hdd] at hun
    go_upto_region 6 with (go_at_call 31; refine hun.mono ?_; rintro e U ⟨aU, cU, rfl, hoU, hbU⟩)
    have hsU := hbU.size
    have hcU' : U.heap[c]? = some (.cells cs 114 (0, 0)) := (hbU.block c (by omega)).trans hcV
    have hTU : U.heap[T]? = some (.cells (trC 1 ch M Ma b) 96 (0, 0)) := (hbU.block T (by omega)).trans hTV
    have v1 : U.cell? ⟨c, 1, none⟩ = some (.int .u32 id) := (cell_of_row U c 1 _ _ _ hcU').trans h1
    have v2 : U.cell? ⟨c, 259, none⟩ = some (.int .u64 0) := (cell_of_row U c 259 _ _ _ hcU').trans t0
    have v3 : U.cell? ⟨c, 260, none⟩ = some (.int .u64 0) := (cell_of_row U c 260 _ _ _ hcU').trans t1
    have v4 : U.cell? ⟨c, 261, none⟩ = some (.pointer none) := (cell_of_row U c 261 _ _ _ hcU').trans t2
    have v5 : U.cell? ⟨c, 262, none⟩ = some (.int .u16 port) := (cell_of_row U c 262 _ _ _ hcU').trans t3
    have w0 : U.drew.cell? ⟨T, 17, none⟩ = some (.int .i64 1024) := cell_of_row U.drew T 17 _ _ _ hTU
    have w1 : U.drew.cell? ⟨T, 17 + 1, none⟩ = some (.map (some Ma)) := cell_of_row U.drew T 18 _ _ _ hTU
    have w2 : U.drew.cell? ⟨T, 17 + 2, none⟩ = some (.pointer (some ⟨b, 0, none⟩)) := cell_of_row U.drew T 19 _ _ _ hTU
    have hMaU : MapU U.drew Ma 0 0 (fun _ => none) := hMaV.of_block (hbU.block Ma (by omega))
    have hbU' : U.drew.heap[b]? = some (.cells (emptyL b) 151 (0, 0)) := (hbU.block b (by omega)).trans hbV
    have hadd := map_add T 17 Ma b id 0 0 none port aU cnt cU U.drew hid w0 w1 w2 hMaU hbU' hbT.symm hMaT.symm
    unfold gvC at hadd
    have hcMa : c ≠ Ma := fun e => by rw [e, hAm] at hc; cases hc
    have hcb : c ≠ b := fun e => by rw [e, hb] at hc; simp at hc
    have hclU : c < U.heap.size := by omega
    go_region_held3 (fun u => u.cell? ⟨c, 1, none⟩ = some (.int .u32 id) ∧ u.cell? ⟨c, 259, none⟩ = some (.int .u64 0) ∧ u.cell? ⟨c, 260, none⟩ = some (.int .u64 0) ∧ u.cell? ⟨c, 261, none⟩ = some (.pointer none) ∧ u.cell? ⟨c, 262, none⟩ = some (.int .u16 port))
      (first
        | exact ⟨v1, v2, v3, v4, v5⟩
        | exact ⟨(World.cell?_of_block (w := U) (hq5 c hclU hcMa hcb)).trans v1, (World.cell?_of_block (w := U) (hq5 c hclU hcMa hcb)).trans v2, (World.cell?_of_block (w := U) (hq5 c hclU hcMa hcb)).trans v3, (World.cell?_of_block (w := U) (hq5 c hclU hcMa hcb)).trans v4, (World.cell?_of_block (w := U) (hq5 c hclU hcMa hcb)).trans v5⟩)
      ((first
        | (go_at_call 32; refine hadd.mono ?_; rintro e UU ⟨rfl, hq1, hq2, hq3, hq4, hq5', N, hN1, hN2⟩; have hq5 : ∀ q, q < U.heap.size → q ≠ Ma → q ≠ b → UU.heap[q]? = U.heap[q]? := hq5')
        | fail))
    have HTU := (hq5 T (by omega) hMaT.symm hbT.symm).trans hTU
    clear hadd hun w0 w1 w2 v1 v2 v3 v4 v5
    refine wpN_of ?_
    have u0 : UU.cell? ⟨T, 14, none⟩ = some (.int .i32 1) := cell_of_row _ T 14 _ _ _ HTU
    have u1 := frozen_of_row UU T 14 _ _ HTU
    have hul := unlock_held muLib ⟨T, 14, none⟩ UU u0 u1
    obtain ⟨FF, hFd⟩ : ∃ FF, FF = UU.setCell ⟨T, 14, none⟩ (.int .i32 0) := ⟨_, rfl⟩
    rw [← hFd] at hul
    have hFo : ∀ q, q ≠ T → FF.heap[q]? = UU.heap[q]? := fun q hq => by rw [hFd]; exact heap_setCell_other _ _ _ _ hq
    have hFT : FF.heap[T]? = w.heap[T]? := by rw [hFd, heap_setCell_same _ _ _ _ _ _ HTU, hT]; rfl
    have hFs : FF.heap.size = UU.heap.size := by rw [hFd]; simp [World.setCell]
    have hFx : FF.os = UU.os ∧ FF.tape = UU.tape ∧ FF.output = UU.output := by rw [hFd]; exact ⟨rfl, rfl, rfl⟩
    have hfin : FYes w M ch Ma b n sz cnt s r id port false blk buf (.returned (.tuple #[])) FF := by
      refine ⟨rfl, hFx.1.trans (hq1.trans (hbU.os.trans hVx.1)), hFx.2.1.trans (hq2.trans (hbU.tape.trans hVx.2.1)), hFx.2.2.trans (hq3.trans (hbU.output.trans hVx.2.2)), by have : U.heap.size ≤ UU.heap.size := hq4; omega, fun q hq g1 g2 g3 g4 => ?_, ?_, ?_, .inl ⟨rfl, hc0, N, aU, cU, ?_, ?_, ?_⟩⟩
      · by_cases hqT : q = T
        · rw [hqT]; exact hFT
        · exact (hFo q hqT).trans ((hq5 q (by omega) g3 g4).trans ((hbU.block q (by omega)).trans (hVw q hq hqT g1 g2)))
      · exact hMV.of_block ((hFo M hMT).trans ((hq5 M (by have := hMV.lt; omega) hMMa hbM.symm).trans (hbU.block M hMV.lt)))
      · exact (hFo ch hchT).trans ((hq5 ch (by omega) hMach.symm hbch.symm).trans ((hbU.block ch (by omega)).trans hVch))
      · exact (hFo N (fun e => by rw [e, HTU] at hN1; simp at hN1)).trans hN1
      · exact (hFo b hbT).trans hN2
      · rw [← hVs]
        refine ownsRow_blk hoU (fun q hq => ?_)
        have hql := World.ownsRow.lt hoU q hq
        exact (hFo q (by omega)).trans (hq5 q hql.2 (by omega) (by omega))
    clear hFd hFo hFT hFs hFx
    go_wp2_with (first
      | (go_at_call 33; refine hul.mono ?_; rintro e w'' ⟨rfl, hw''⟩; subst hw'')
      | fail)
    go_end0
    exact hfin
  · have hdd : (!ans && decide (0 < cnt)) = false := by
      cases ans
      · simp at hgive ⊢; omega
      · rfl
    rw [hdd] at hun
    go_wp2_with (first
      | (go_at_call 31; refine hun.mono ?_; rintro e U ⟨aU, cU, rfl, hoU, hbU⟩)
      | fail)
    rename World => UU
    have hsU := hbU.size
    have HTU : UU.heap[T]? = some (.cells (trC 1 ch M Ma b) 96 (0, 0)) := (hbU.block T (by omega)).trans hTV
    clear hun
    refine wpN_of ?_
    have u0 : UU.cell? ⟨T, 14, none⟩ = some (.int .i32 1) := cell_of_row _ T 14 _ _ _ HTU
    have u1 := frozen_of_row UU T 14 _ _ HTU
    have hul := unlock_held muLib ⟨T, 14, none⟩ UU u0 u1
    obtain ⟨FF, hFd⟩ : ∃ FF, FF = UU.setCell ⟨T, 14, none⟩ (.int .i32 0) := ⟨_, rfl⟩
    rw [← hFd] at hul
    have hFo : ∀ q, q ≠ T → FF.heap[q]? = UU.heap[q]? := fun q hq => by rw [hFd]; exact heap_setCell_other _ _ _ _ hq
    have hFT : FF.heap[T]? = w.heap[T]? := by rw [hFd, heap_setCell_same _ _ _ _ _ _ HTU, hT]; rfl
    have hFs : FF.heap.size = UU.heap.size := by rw [hFd]; simp [World.setCell]
    have hFx : FF.os = UU.os ∧ FF.tape = UU.tape ∧ FF.output = UU.output := by rw [hFd]; exact ⟨rfl, rfl, rfl⟩
    have hfin : FYes w M ch Ma b n sz cnt s r id port ans blk buf (.returned (.tuple #[])) FF := by
      refine ⟨rfl, hFx.1.trans (hbU.os.trans hVx.1), hFx.2.1.trans (hbU.tape.trans hVx.2.1), hFx.2.2.trans (hbU.output.trans hVx.2.2), by omega, fun q hq g1 g2 g3 g4 => ?_, ?_, ?_, .inr ⟨?_, ?_⟩⟩
      · by_cases hqT : q = T
        · rw [hqT]; exact hFT
        · exact (hFo q hqT).trans ((hbU.block q (by omega)).trans (hVw q hq hqT g1 g2))
      · exact hMV.of_block ((hFo M hMT).trans (hbU.block M hMV.lt))
      · exact (hFo ch hchT).trans ((hbU.block ch (by omega)).trans hVch)
      · cases ans
        · right
          by_cases h : cnt = 0
          · exact h
          · exact absurd ⟨rfl, by omega⟩ hgive
        · exact .inl rfl
      · exact (hFo b hbT).trans ((hbU.block b (by omega)).trans (hVw b hbl hbT hbM hbch))
    clear hFd hFo hFT hFs hFx
    go_wp2_with (first
      | (go_at_call 33; refine hul.mono ?_; rintro e w'' ⟨rfl, hw''⟩; subst hw'')
      | fail)
    go_end0
    exact hfin

end Go.Proofs.Ybulkcrtu
