import Derived.Test.YbulkcrtuM2
namespace Go.Proofs.Ybulkcrtu
open Go.RowKit Go.ChangeMaps Go.MapKept Go.MuLone

theorem neq97 (a : Addr) (w : World) : (binOp .neq 97 (.pointer (some a)) (.pointer (some a))).run Yba.prog w = .ok (.bool false) w := by
  obtain ⟨j, hj, _⟩ := info114
  have h : ∀ d : Nat, (Op.equalIn (d + 1) 97 (.pointer (some a)) (.pointer (some a))).run Yba.prog w = .ok true w := fun d => by
    simp [Op.equalIn, run_underlying Yba.underlying97, sizeOf, typeInfo, hj, run_sameAddr_same]
  simp only [binOp]
  simp [Op.equal, Op.maxDepth, h 9999]
theorem len71 {w : World} {ch cap s r : Nat} {buf : Array Value} (m : Nat) (hm : buf.size = m) (hc : w.heap[ch]? = some (.chan cap buf false s r false)) (ty : TypeId) : (Builtin.len_ #[71] ty #[.chan (some ch)]).run Yba.prog w = .ok (.int .i64 (m : Int)) w := by
  rw [Go.Conc.run_len_chan 71 ty Yba.underlying71 hc, hm]
  rfl

set_option maxRecDepth 100000 in
set_option maxHeartbeats 8000000 in
/-- The checks behind Forget, where the call was taken out. -/
theorem after_yes (co : Code) (hcd : IsTail 19 co) (A : Act) (hA : A.tmps.size = 303) (hAd : A.defers = []) (a0 aS : Option Addr) (n cap T P b c ch M Ma m cnt cS s r : Nat) (z : Nat → Int) (id port : Int) (ans : Bool) (blk : Int → Option Nat) (cs buf : Array Value) (w W : World)
    (e0 : A.eval (.tmp 0) = .slice a0 n cap) (e5 : A.eval (.tmp 5) = .bool ans) (e15 : A.eval (.tmp 15) = .pointer (some ⟨T, 0, none⟩)) (e19 : A.eval (.tmp 19) = .int .u32 id) (e20 : A.eval (.tmp 20) = .pointer (some ⟨P, 0, none⟩)) (e21 : A.eval (.tmp 21) = .int .i64 (cnt : Int)) (e24 : A.eval (.tmp 24) = .pointer (some ⟨c, 0, none⟩)) (e25 : A.eval (.tmp 25) = .pointer (some ⟨c, 0, none⟩)) (e26 : A.eval (.tmp 26) = .int .i64 ((m : Int) + 1))
    (h : UArg w a0 n z) (hn : n ≤ 1024) (hid : Id id) (hc5 : cnt ≤ 5) (hB : Below w.heap.size w W) (hT : W.heap[T]? = some (.cells (trC 0 ch M Ma b) 96 (0, 0))) (hP : W.heap[P]? = some (.cells #[.int .u64 0, .int .u64 0, .pointer none, .int .u16 port] 37 (0, 0)))
    (hc : W.heap[c]? = some (.cells cs 114 (0, 0))) (h271 : cs[271]? = some (.slice aS cnt cS)) (h272 : cs[272]? = some (.bool ans)) (hM : MapU W M n m (fOf blk)) (hno : blk id = none) (hch : W.heap[ch]? = some (.chan 1024 buf false s r false)) (hbs : buf.size = m) (hdom : ∀ i, i < n → z i ≠ id → (blk (z i)).isSome = true) (hL : Late W b cnt id port ans true) :
    co.wp Yba.prog (bodyPost Yba.prog Yba.f4 (fun e w' => e = .returned (.bool true) ∧ Below w.heap.size w w')) A W := by
  obtain ⟨bd, hbd, rfl⟩ := hcd
  simp only [Yba.f4, Option.some.injEq] at hbd
  subst hbd
  obtain ⟨g, hg, rfl⟩ := frame303 A hA hAd
  rw [hg] at e0 e5 e15 e19 e20 e21 e24 e25 e26
  rw [← putTail_self 2 (dropC 19 _)]
  generalize hX : dropC 2 (dropC 19 _) = X
  have hXt : IsTail 21 X := ⟨_, rfl, hX⟩
  clear hX
  simp only [dropC, putTail, e0, e5, e15, e19, e20, e21, e24, e25, e26]
  clear e0 e5 e15 e19 e20 e21 e24 e25 e26 hg hA hAd
  generalize hQd : bodyPost Yba.prog Yba.f4 _ = Q
  have hmn := hM.size_le
  have k16 : W.cell? ⟨T, 16, none⟩ = some (.map (some M)) := cell_of_row W T 16 _ _ _ hT
  have k13 : W.cell? ⟨T, 13, none⟩ = some (.chan (some ch)) := cell_of_row W T 13 _ _ _ hT
  have hlook := hM.look Yba.underlying72 (zero97 W) hid
  rw [fOf_getD, hno] at hlook
  simp only [ptr, Option.map_none] at hlook
  have hlen := hM.len Yba.underlying72
  have hlch := len71 m hbs hch
  have heq := eql97 (w := W) (p := some c) (q := some c) (fun d hd => by obtain rfl := Option.some.inj hd; exact ⟨cs, hc⟩) (fun d hd => by obtain rfl := Option.some.inj hd; exact ⟨cs, hc⟩)
  simp only [ptr, Option.map_some, decide_true] at heq
  have hsub : IntKind.i64.wrap ((m : Int) + 1 - 1) = (m : Int) := by rw [IntKind.wrap_i64]; omega
  go_wp2
  rw [← hQd]
  refine late_walk X hXt _ ?_ ?_ a0 aS n cap T P b c ch M Ma m cnt cS z id port ans true blk cs w W ?_ ?_ ?_ ?_ ?_ ?_ ?_ ?_ h hn hc5 hB hT hP hc h271 h272 hM hdom hL <;> rfl

set_option maxRecDepth 100000 in
set_option maxHeartbeats 8000000 in
/-- The checks behind Forget, where nothing was taken out. -/
theorem after_no (co : Code) (hcd : IsTail 19 co) (A : Act) (hA : A.tmps.size = 303) (hAd : A.defers = []) (a0 aS : Option Addr) (n cap T P b c ch M Ma m cnt cS s r : Nat) (z : Nat → Int) (id port : Int) (ans : Bool) (blk : Int → Option Nat) (cs buf : Array Value) (w W : World)
    (e0 : A.eval (.tmp 0) = .slice a0 n cap) (e5 : A.eval (.tmp 5) = .bool ans) (e15 : A.eval (.tmp 15) = .pointer (some ⟨T, 0, none⟩)) (e19 : A.eval (.tmp 19) = .int .u32 id) (e20 : A.eval (.tmp 20) = .pointer (some ⟨P, 0, none⟩)) (e21 : A.eval (.tmp 21) = .int .i64 (cnt : Int)) (e24 : A.eval (.tmp 24) = ptr (blk id)) (e25 : A.eval (.tmp 25) = .pointer (some ⟨c, 0, none⟩)) (e26 : A.eval (.tmp 26) = .int .i64 (m : Int))
    (h : UArg w a0 n z) (hn : n ≤ 1024) (hid : Id id) (hc5 : cnt ≤ 5) (hB : Below w.heap.size w W) (hT : W.heap[T]? = some (.cells (trC 0 ch M Ma b) 96 (0, 0))) (hP : W.heap[P]? = some (.cells #[.int .u64 0, .int .u64 0, .pointer none, .int .u16 port] 37 (0, 0)))
    (hc : W.heap[c]? = some (.cells cs 114 (0, 0))) (h271 : cs[271]? = some (.slice aS cnt cS)) (h272 : cs[272]? = some (.bool ans)) (hM : MapU W M n m (fOf blk)) (hne : blk id ≠ some c) (hbl : ∀ d, blk id = some d → ∃ ca, W.heap[d]? = some (.cells ca 114 (0, 0))) (hch : W.heap[ch]? = some (.chan 1024 buf false s r false)) (hbs : buf.size = m) (hdom : ∀ i, i < n → z i ≠ id → (blk (z i)).isSome = true) (hL : Late W b cnt id port ans false) :
    co.wp Yba.prog (bodyPost Yba.prog Yba.f4 (fun e w' => e = .returned (.bool true) ∧ Below w.heap.size w w')) A W := by
  obtain ⟨bd, hbd, rfl⟩ := hcd
  simp only [Yba.f4, Option.some.injEq] at hbd
  subst hbd
  obtain ⟨g, hg, rfl⟩ := frame303 A hA hAd
  rw [hg] at e0 e5 e15 e19 e20 e21 e24 e25 e26
  rw [← putTail_self 2 (dropC 19 _)]
  generalize hX : dropC 2 (dropC 19 _) = X
  have hXt : IsTail 21 X := ⟨_, rfl, hX⟩
  clear hX
  simp only [dropC, putTail, e0, e5, e15, e19, e20, e21, e24, e25, e26]
  clear e0 e5 e15 e19 e20 e21 e24 e25 e26 hg hA hAd
  generalize hQd : bodyPost Yba.prog Yba.f4 _ = Q
  have hmn := hM.size_le
  have k16 : W.cell? ⟨T, 16, none⟩ = some (.map (some M)) := cell_of_row W T 16 _ _ _ hT
  have k13 : W.cell? ⟨T, 13, none⟩ = some (.chan (some ch)) := cell_of_row W T 13 _ _ _ hT
  have hlook := hM.look Yba.underlying72 (zero97 W) hid
  rw [fOf_getD] at hlook
  have hlen := hM.len Yba.underlying72
  have hlch := len71 m hbs hch
  have heq := eql97 (w := W) (p := some c) (q := blk id) (fun d hd => by obtain rfl := Option.some.inj hd; exact ⟨cs, hc⟩) hbl
  rw [decide_eq_false (fun e => hne e.symm)] at heq
  cases hbk : blk id with
  | none =>
    rw [hbk] at hlook heq
    simp only [ptr, Option.map_none, Option.map_some] at hlook heq ⊢
    go_wp2
    rw [← hQd]
    refine late_walk X hXt _ ?_ ?_ a0 aS n cap T P b c ch M Ma m cnt cS z id port ans false blk cs w W ?_ ?_ ?_ ?_ ?_ ?_ ?_ ?_ h hn hc5 hB hT hP hc h271 h272 hM hdom hL <;> rfl
  | some d =>
    rw [hbk] at hlook heq
    simp only [ptr, Option.map_some] at hlook heq ⊢
    have hnn := neq97 ⟨d, 0, none⟩ W
    go_wp2
    rw [← hQd]
    refine late_walk X hXt _ ?_ ?_ a0 aS n cap T P b c ch M Ma m cnt cS z id port ans false blk cs w W ?_ ?_ ?_ ?_ ?_ ?_ ?_ ?_ h hn hc5 hB hT hP hc h271 h272 hM hdom hL <;> rfl

end Go.Proofs.Ybulkcrtu
