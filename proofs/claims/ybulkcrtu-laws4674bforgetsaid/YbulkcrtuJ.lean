import Derived.Test.YbulkcrtuM
namespace Go.Proofs.Ybulkcrtu
open Go.RowKit Go.ChangeMaps Go.MapKept Go.MuLone

set_option maxRecDepth 100000 in
set_option maxHeartbeats 4000000 in
theorem law_walk (a0 : Option Addr) (n cap : Nat) (z : Nat → Int) (sel extra nn port : Int) (stranger ans : Bool) (w : World) (h : UArg w a0 n z) (hn0 : n ≤ 9223372036854775807) (hs0 : 0 ≤ sel) (hs1 : sel ≤ 65535) (hex : Id extra) (hnn0 : 0 ≤ nn) (hnn1 : nn ≤ 255) :
    Calls Yba.prog 4 #[.slice a0 n cap, .int .u16 sel, .int .u32 extra, .bool stranger, .int .u8 nn, .bool ans, .int .u16 port] w fun e w' => e = .returned (.bool true) ∧ Below w.heap.size w w' := by
  by_cases hbig : 1024 < n
  · go_enter Yba.func4, Yba.ntmps4
    go_wp2
    go_ret
    exact ⟨rfl, Below.refl _ _⟩
  have hn : n ≤ 1024 := by omega
  have hd0 : decide (1024 < (n : Int)) = false := by simp; omega
  refine calls_of_wpN Yba.func4 rfl ?_
  generalize hQd : bodyPost Yba.prog Yba.f4 _ = Q
  simp only [Yba.ntmps4, List.size_toArray, List.length_cons, List.length_nil, Nat.reduceAdd, Nat.reduceSub, Array.replicate_succ, Array.replicate_zero, List.push_toArray, List.append_toArray, List.nil_append, List.cons_append]
  refine wpN_seq (wpN_of ?_)
  go_wp2
  refine wpN_seq (wpN_of ?_)
  go_wp2
  refine wpN_seq (wpN_of ?_)
  refine new_region _ ?hA ?hsz ?hlow ?hw ?hm ?o0 ?o1 ?o2 ?o3 ?o4 ?o5 ?hQ
  case hA => show 43 ≤ 303; omega
  case hsz => rfl
  case hlow => kernel_rfl
  case hm => kernel_rfl
  case o0 => exact ⟨_, rfl, rfl, rfl, rfl⟩
  case o1 => exact ⟨_, rfl, rfl, rfl, rfl⟩
  case o2 => exact ⟨_, rfl, rfl, rfl, rfl⟩
  case o3 => exact ⟨_, rfl, rfl, rfl, rfl⟩
  case o4 => exact ⟨_, rfl, rfl, rfl, rfl⟩
  case o5 => exact ⟨_, rfl, rfl, rfl, rfl⟩
  case hw =>
    intro p hp
    simp only [edges3, List.mem_cons, List.not_mem_nil, or_false] at hp
    rcases hp with h | h | h | h | h <;> subst h <;> kernel_rfl
  case hQ =>
    intro f3 w3 T ch M Ma b hB3 hT0 hch0 hM0 hMa0 hb0 hMMa hT3 hch3 hM3 hMa3 hb3
    have hSt0 : St w w3 T ch M Ma b 0 z 0 (fun _ => none) #[] 0 := ⟨hB3, hT0, hch0, hM0, hMa0, hb0, hMMa, hT3, hch3, rfl, hM3, hMa3, hb3, fun x _ => ⟨fun h => (by cases h), fun ⟨i, hi, _⟩ => absurd hi (by omega)⟩, fun x d h => (by cases h)⟩
    clear hB3 hT0 hch0 hM0 hMa0 hb0 hMMa hT3 hch3 hM3 hMa3 hb3
    simp only [putsR, Act.put, Nat.reduceAdd, List.setIfInBounds_toArray, List.set_cons_zero, List.set_cons_succ]
    refine wpN_seq ?_
    generalize hQ2 : Exit.then (wpN Yba.prog _ Q) Q = Q2
    refine wpN_seq (wpN_of ?_)
    go_wp2
    refine wpN_block ?_
    generalize hA1 : Act.mk _ _ = A1
    refine wpN_loop (fun m a w' => ∃ (f : Nat → Value) (u17 : Value) (k sz : Nat) (blk : Int → Option Nat) (buf : Array Value) (s : Nat), m = n - k ∧ k ≤ n ∧ a = (FR A1 45 26 f).put (some 17) u17 ∧ f 0 = .int .i64 k ∧ St w w' T ch M Ma b k z sz blk buf s) n ?_ ?_
    · refine ⟨fun i => A1.eval (.tmp (45 + i)), A1.eval (.tmp 17), 0, 0, _, _, _, by omega, by omega, ?_, ?_, hSt0⟩
      · rw [FR_self, put_self]
      · rw [← hA1]; rfl
    · rintro m a wr ⟨f, u17, k, sz, blk, buf, s, rfl, hk, rfl, hf0, hSt⟩
      generalize hQ3 : Exit.then _ (Exit.inBlock 0 Q2) = Q3
      rw [FR_puts, ← hA1]
      simp only [putsR, Act.put, Nat.reduceAdd, List.setIfInBounds_toArray, List.set_cons_zero, List.set_cons_succ, hf0]
      by_cases hlt : k < n
      · rcases h with h | ⟨bY, oY, rfl, h⟩
        · omega
        obtain ⟨hB, hT0, hch0, hM0, hMa0, hb0, hMMa, hT, hch, hbs, hM, hMa, hb, hdom, hcalls⟩ := hSt
        obtain ⟨y0, hIdk⟩ := h k hlt
        have x0 : wr.cell? ⟨bY, oY + k, none⟩ = some (.int .u32 (z k)) := (hB.cell (World.block_lt_of_cell? _ _ y0)).trans y0
        have hlt' : (k : Int) < (n : Int) := by omega
        have k16 : wr.cell? ⟨T, 16, none⟩ = some (.map (some M)) := cell_of_row wr T 16 _ _ _ hT
        have k13 : wr.cell? ⟨T, 13, none⟩ = some (.chan (some ch)) := cell_of_row wr T 13 _ _ _ hT
        have hlook := hM.look Yba.underlying72 (zero97 wr) hIdk
        rw [fOf_getD] at hlook
        refine wpN_seq (wpN_of ?_)
        go_wp2
        refine wpN_seq (wpN_of ?_)
        go_wp2
        refine wpN_seq (wpN_block ?_)
        refine wpN_seq (wpN_of ?_)
        go_wp2
        cases hbk : blk (z k) with
        | none =>
          rw [hbk] at hlook
          simp only [ptr, Option.map_none] at hlook
          refine wpN_seq (wpN_of ?_)
          go_wp2
          refine wpN_cond true rfl ?_
          rw [if_pos rfl]
          obtain ⟨W8, hW8d⟩ : ∃ W8, W8 = wr.alloc (.cells (callC (z k)) 114) := ⟨_, rfl⟩
          have hB8 : Below wr.heap.size wr W8 := by rw [hW8d]; exact below_alloc _ _
          have hC8 : W8.heap[wr.heap.size]? = some (.cells (callC (z k)) 114 (0, 0)) := by rw [hW8d]; exact heap1a _ _
          have hM8 : MapU W8 M k sz (fOf blk) := hM.of_block (hB8.block M hM.lt)
          obtain ⟨W9, hup, hM9, ht9⟩ := hM8.update Yba.underlying72 (by unfold maxLen; omega) hIdk (.pointer (some ⟨wr.heap.size, 0, none⟩)) (by unfold fOf; rw [hbk]; rfl)
          have hg9 := ht9.grown
          rw [hW8d, callC_big] at hup
          have hTl := (Array.getElem?_eq_some_iff.1 hT).1
          have hchl := (Array.getElem?_eq_some_iff.1 hch).1
          have hbl := (Array.getElem?_eq_some_iff.1 hb).1
          obtain ⟨esM, cM, hMm⟩ := hM.map
          have hs8 := hB8.size
          have hTM : T ≠ M := fun e => by rw [e, hMm] at hT; cases hT
          have hchM : ch ≠ M := fun e => by rw [e, hMm] at hch; cases hch
          have hbM : b ≠ M := fun e => by rw [e, hMm] at hb; cases hb
          have hT9 : W9.heap[T]? = some (.cells (trC 0 ch M Ma b) 96 (0, 0)) := (hg9.block T (by omega) (by simpa using hTM)).trans ((hB8.block T hTl).trans hT)
          have hch9 : W9.heap[ch]? = some (.chan 1024 buf false s 0 false) := (hg9.block ch (by omega) (by simpa using hchM)).trans ((hB8.block ch hchl).trans hch)
          have hk13 : W9.cell? ⟨T, 13, none⟩ = some (.chan (some ch)) := cell_of_row W9 T 13 _ _ _ hT9
          have hszk := hM.size_le
          refine wpN_seq (wpN_of ?_)
          go_wp2
          refine wpN_region ?_
          change wpR _ _ _ [0, 1, 2, 3, 4, 5] _ _
          refine wpR_put 65 (.pointer (some ⟨T, 0, none⟩)) rfl rfl rfl ((exec_move (x := .tmp 15) rfl).trans rfl) ?_
          refine wpR_put 66 (.pointer (some ⟨T, 0, none⟩)) rfl rfl rfl (exec_nil rfl rfl) ?_
          refine wpR_put 67 (.pointer (some ⟨T, 13, none⟩)) rfl rfl rfl (exec_field (field96_8 W9 T) rfl rfl) ?_
          refine wpR_put 68 (.chan (some ch)) rfl rfl rfl (exec_load1 (load_cell agg71 W9 ⟨T, 13, none⟩ _ hk13) rfl rfl) ?_
          refine wpR_put 69 (.agg #[]) rfl rfl rfl (exec_build (parts := #[]) (vs := #[]) rfl (by simp) build89) ?_
          refine wpR_send (v := .agg #[]) rfl rfl rfl rfl rfl hch9 (by omega) ?_
          change wpR _ _ _ [] (Act.put _ none _) _
          refine wpR_nil ?_
          simp only [Act.put, List.setIfInBounds_toArray, List.set_cons_zero, List.set_cons_succ]
          refine wpN_of ?_
          go_wp2
          rw [← hQ3]
          generalize hF : Act.mk _ _ = F
          obtain ⟨WF, hWF⟩ : ∃ WF, WF = W9.setChan ch 1024 (buf.push (.agg #[])) false (s + 1) 0 false := ⟨_, rfl⟩
          have hWFo : ∀ q, q ≠ ch → WF.heap[q]? = W9.heap[q]? := fun q hq => by
            rw [hWF]
            simp only [World.setChan]
            rw [Array.getElem?_setIfInBounds_ne (Ne.symm hq)]
          have hold : ∀ q, q < wr.heap.size → q ≠ ch → q ≠ M → WF.heap[q]? = wr.heap[q]? := fun q hq h1 h2 => (hWFo q h1).trans ((hg9.block q (by omega) (by simpa using h2)).trans (hB8.block q hq))
          have hBF : Below w.heap.size w WF := by
            have hsw := hB.size
            refine ⟨by rw [hWF]; exact hg9.os.trans (hB8.os.trans hB.os), by rw [hWF]; exact hg9.tape.trans (hB8.tape.trans hB.tape), by rw [hWF]; exact hg9.output.trans (hB8.output.trans hB.output), by rw [hWF, Go.Conc.size_setChan]; have := hg9.size; omega, fun q hq => ?_⟩
            exact (hold q (by omega) (by omega) (by omega)).trans (hB.block q hq)
          have hCF : WF.heap[wr.heap.size]? = some (.cells (callC (z k)) 114 (0, 0)) := (hWFo _ (by omega)).trans ((hg9.block _ (Array.getElem?_eq_some_iff.1 hC8).1 (by have := hM.lt; simp; omega)).trans hC8)
          have hfe : fOf (fun x => if x = z k then some wr.heap.size else blk x) = putU (fOf blk) (z k) (.pointer (some ⟨wr.heap.size, 0, none⟩)) := by
            funext x
            unfold fOf putU
            by_cases hx : x = z k
            · simp [hx]
            · simp [hx]
          rw [← hWF]
          refine ⟨n - (k + 1), by omega, fun i => F.eval (.tmp (45 + i)), F.eval (.tmp 17), k + 1, sz + 1, fun x => if x = z k then some wr.heap.size else blk x, buf.push (.agg #[]), s + 1, rfl, by omega, ?_, ?_, hBF, hT0, hch0, hM0, hMa0, hb0, hMMa, (hWFo T (fun e => by rw [e, hch] at hT; cases hT)).trans hT9, ?_, ?_, ?_, hMa.of_block (hold Ma hMa.lt (fun e => by obtain ⟨_, _, h⟩ := hMa.map; rw [e, hch] at h; cases h) hMMa.symm), (hold b hbl (fun e => by rw [e, hch] at hb; cases hb) hbM).trans hb, ?_, ?_⟩
          · rw [FR_puts, ← hA1, ← hF]
            kernel_rfl
          · rw [← hF]
            show Value.int .i64 _ = _
            go_num
          · rw [hWF]; exact Go.Conc.heap_setChan _ _ _ _ _ _ _ _ (by have := hg9.size; omega)
          · rw [Array.size_push, hbs]
          · rw [hfe]; exact hM9.of_block (hWFo M hchM.symm)
          · intro x hx
            by_cases hxk : x = z k
            · subst hxk
              simp only [if_true]
              exact ⟨fun _ => ⟨k, by omega, rfl⟩, fun _ => rfl⟩
            · simp only [hxk, if_false]
              rw [hdom x hx]
              refine ⟨fun ⟨i, hi, e⟩ => ⟨i, by omega, e⟩, fun ⟨i, hi, e⟩ => ⟨i, ?_, e⟩⟩
              by_cases hik : i = k
              · subst hik; exact absurd e.symm hxk
              · omega
          · intro x d hd
            by_cases hxk : x = z k
            · subst hxk
              simp only [if_true] at hd
              obtain rfl := Option.some.inj hd
              exact ⟨hCF, hB.size⟩
            · simp only [hxk, if_false] at hd
              obtain ⟨h1, h2⟩ := hcalls x d hd
              exact ⟨(hold d (Array.getElem?_eq_some_iff.1 h1).1 (fun e => by rw [e, hch] at h1; cases h1) (fun e => by rw [e, hMm] at h1; cases h1)).trans h1, h2⟩
        | some d =>
          rw [hbk] at hlook
          simp only [ptr, Option.map_some] at hlook
          refine wpN_seq (wpN_of ?_)
          go_wp2
          refine wpN_cond false rfl ?_
          rw [if_neg (by simp)]
          refine wpN_of ?_
          go_wp2
          refine wpN_of ?_
          go_wp2
          rw [← hQ3]
          generalize hF : Act.mk _ _ = F
          refine ⟨n - (k + 1), by omega, fun i => F.eval (.tmp (45 + i)), F.eval (.tmp 17), k + 1, sz, blk, buf, s, rfl, by omega, ?_, ?_, hB, hT0, hch0, hM0, hMa0, hb0, hMMa, hT, hch, hbs, hM.mono (by omega), hMa, hb, ?_, hcalls⟩
          · rw [FR_puts, ← hA1, ← hF]
            kernel_rfl
          · rw [← hF]
            show Value.int .i64 _ = _
            go_num
          · intro x hx
            rw [hdom x hx]
            refine ⟨fun ⟨i, hi, e⟩ => ⟨i, by omega, e⟩, fun ⟨i, hi, e⟩ => ?_⟩
            by_cases hik : i = k
            · subst hik
              have := (hdom x hx).1 (by rw [← e, hbk]; rfl)
              exact this
            · exact ⟨i, by omega, e⟩
      · have hk' : k = n := by omega
        subst hk'
        have hlt' : ¬ (k : Int) < (k : Int) := by omega
        refine wpN_seq (wpN_of ?_)
        go_wp2
        refine wpN_seq (wpN_of ?_)
        go_wp2
        rw [← hQ3]
        show Q2 .normal _ _
        rw [← hQ2]
        show wpN Yba.prog _ Q _ _
        rw [← hQd]
        refine wpN_of (rest_walk _ ?hcd _ ?_ ?_ a0 k cap z sel extra nn port stranger ans w wr T ch M Ma b sz s blk buf ?_ ?_ ?_ ?_ ?_ ?_ ?_ ?_ h hn hs0 hs1 hex hnn0 hnn1 hSt)
        case hcd => exact ⟨_, rfl, rfl⟩
        all_goals rfl

end Go.Proofs.Ybulkcrtu
