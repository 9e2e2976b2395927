import Derived.Test.YbulkcruwFmtA
import Derived.Stop.CallBack
import Derived.Stop.IfaceNil
import Derived.Stop.Asserts
import Derived.LaidEql
import Derived.RowKitTokens
import Derived.Deep.RegionWith
import GoSem.ClaimData
namespace Go.Proofs.YbulkcruwFmt
open Go.RowKit Go.Extern.Stop Go.Stop Go.Extern

theorem call11 (args : Array Value) (w : World) : (callFunc 11 args).run Ybaf.prog w = ((FmtStop.errorf #[9, 50] #[24] args).run Ybaf.prog w).andThen fun v w' => .ok (.value v) w' :=
  run_callFunc_extern Ybaf.func11 (by kernel_rfl) (by kernel_rfl) (by kernel_rfl) (by kernel_rfl) args w
theorem fguard (name : String) (w : World) : (FmtStop.guard name).run Ybaf.prog w = .ok () w := by kernel_rfl
theorem fmt0 : FmtStop.printed? ⟨#[37, 119, 58, 32, 45, 40, 37, 100, 32, 37, 115, 115, 41, 32, 100, 111, 101, 115, 32, 110, 111, 116, 32, 102, 105, 116, 32, 105, 110, 32, 37, 100, 32, 98, 105, 116, 115]⟩ 4 = some [(0, 119, false), (1, 100, false), (2, 115, false), (3, 100, false)] := by kernel_rfl
theorem fmt0r (w : World) : (FmtDoors.printed ⟨#[37, 119, 58, 32, 45, 40, 37, 100, 32, 37, 115, 115, 41, 32, 100, 111, 101, 115, 32, 110, 111, 116, 32, 102, 105, 116, 32, 105, 110, 32, 37, 100, 32, 98, 105, 116, 115]⟩ 4).run Ybaf.prog w = .ok [(0, 119, false), (1, 100, false), (2, 115, false), (3, 100, false)] w := by kernel_rfl
def shape9 : List UInt8 := [12, 6, 0, 0, 0, 0, 0, 0, 0, 115, 116, 114, 105, 110, 103]
theorem op9_115w (name : String) (x : ByteArray) (w : World) : (FmtStop.operand name true 115 false (.iface 9 (.string x))).run Ybaf.prog w = .ok (shape9, FmtStop.pack x.data.toList) w := by kernel_rfl
def shape3 : List UInt8 := [5, 3, 0, 0, 0, 0, 0, 0, 0, 105, 110, 116]
theorem op3_100w (name : String) (x : Int) (w : World) : (FmtStop.operand name true 100 false (.iface 3 (.int .i64 x))).run Ybaf.prog w = .ok (shape3, Go.Extern.Stop.digits 8 (x % 2 ^ 64).toNat) w := by kernel_rfl
theorem ptr52 (w : World) : (FmtStop.ptrTo "fmt.wrapError").run Ybaf.prog w = .ok 52 w := by kernel_rfl
theorem elem52 (w : World) : (elemOf 52).run Ybaf.prog w = .ok 82 w := by kernel_rfl
theorem isError53 (w : World) : (FmtDoors.textMethod 53 "Error").run Ybaf.prog w = .ok true w := by kernel_rfl
def nameIn : DataW Unit → String
  | .iface n _ => n
  | _ => ""
/-- The sentinel's type's name, as the given datum bears it. -/
def errName : String := nameIn Rows.laid_example_com_spanwise_spanwise_ErrOutOfRange
def plain53 : List UInt8 := 14 :: FmtStop.pack errName.toUTF8.data.toList
theorem opPlain53_119w (name : String) (a : Addr) (s : ByteArray) (w : World) (hc : w.cell? a = some (.string s)) :
    (FmtStop.operand name true 119 false (.iface 53 (.pointer (some a)))).run Ybaf.prog w = .ok (plain53, s.data.toList) w := by
  have h1 : (typeStr 53).run Ybaf.prog w = .ok errName w := by kernel_rfl
  have d2 : Ybaf.t53.desc = .pointer 55 := rfl
  have d3 : Ybaf.t55.desc = .named "errors.errorString" 54 := rfl
  simp [FmtStop.operand, h1, d2, d3, run_load, hc, plain53]

attribute [local go_sem] call11 fguard fmt0 fmt0r op9_115w op3_100w ptr52 elem52 isError53

set_option maxHeartbeats 800000 in
theorem errorf (F : Interp) (b : Nat) (a : Addr) (s n : ByteArray) (w : World) (hF : F.answers w.tape) (h0 : w.cell? ⟨b, 0, none⟩ = some (.iface 53 (.pointer (some a)))) (h1 : w.cell? ⟨b, 1, none⟩ = some (.iface 3 (.int .i64 (-9223372036854775808))))
    (h2 : w.cell? ⟨b, 2, none⟩ = some (.iface 9 (.string n))) (h3 : w.cell? ⟨b, 3, none⟩ = some (.iface 3 (.int .i64 64))) (hs : w.cell? a = some (.string s)) :
    Calls Ybaf.prog 10 #[.string ⟨#[37, 119, 58, 32, 45, 40, 37, 100, 32, 37, 115, 115, 41, 32, 100, 111, 101, 115, 32, 110, 111, 116, 32, 102, 105, 116, 32, 105, 110, 32, 37, 100, 32, 98, 105, 116, 115]⟩, .slice (some ⟨b, 0, none⟩) 4 4] w
      fun e w' => e = .returned (.iface 52 (.pointer (some ⟨w.heap.size, 0, none⟩))) ∧ ∃ t, w' = (w.alloc (.cells #[.string t, .iface 53 (.pointer (some a))] 82)).drew := by
  have hF' := hF
  unfold Interp.answers at hF'
  have hop := opPlain53_119w "fmt.errorf" a s w hs
  go_enter Ybaf.func10, Ybaf.ntmps10
  go_wp2
  go_ret
  exact ⟨rfl, _, rfl⟩

set_option maxHeartbeats 800000 in
theorem cannot (F : Interp) (m : Nat) (a : Addr) (s n : ByteArray) (w : World) (hF : F.answers w.tape) (hm : m < 7) (hg : w.cell? ⟨0, 0, none⟩ = some (.iface 53 (.pointer (some a)))) (hn : w.cell? ⟨1, m, none⟩ = some (.string n))
    (hs : ∀ o, (w.alloc o).cell? a = some (.string s)) :
    Calls Ybaf.prog 7 #[.int .u8 m] w fun e w' => e = .returned (.iface 52 (.pointer (some ⟨w.heap.size + 1, 0, none⟩))) ∧ Below w.heap.size w w' ∧ w'.cell? ⟨w.heap.size + 1, 0 + 1, none⟩ = some (.iface 53 (.pointer (some a))) := by
  go_enter Ybaf.func7, Ybaf.ntmps7
  go_wp2
  go_region_with (go_at_call 10; refine (errorf F w.heap.size a s n _ ?_ ?_ ?_ ?_ ?_ ?_).mono ?_; exact hF; go_simp; go_simp; go_simp; go_simp; exact hs _; rintro e w' ⟨rfl, t, rfl⟩)
  all_goals (try go_wp2)
  all_goals
    go_ret
    refine ⟨rfl, (((Below.refl _ _).alloc (Nat.le_refl _) _).alloc (by simp) _).drew.drew, ?_⟩
    go_simp

set_option maxHeartbeats 800000 in
theorem negate_bad (F : Interp) (b m : Nat) (f : Nat → Int) (a : Addr) (s n : ByteArray) (w : World) (hF : F.answers w.tape) (hm : m < 7) (hc : ∀ i, i < 7 → w.cell? ⟨b, i, none⟩ = some (.int .i64 (f i))) (hf : ∀ i, i < 7 → w.frozen? ⟨b, i, none⟩ = false)
    (hlo : ∀ i, i < m → -9223372036854775807 ≤ f i) (hhi : ∀ i, i < 7 → f i ≤ 9223372036854775807) (hmin : f m = -9223372036854775808) (hb0 : 2 ≤ b)
    (hg : w.cell? ⟨0, 0, none⟩ = some (.iface 53 (.pointer (some a)))) (hn : w.cell? ⟨1, m, none⟩ = some (.string n)) (hs : w.cell? a = some (.string s)) (hab : a.block ≠ b) :
    Calls Ybaf.prog 5 #[.pointer (some ⟨b, 0, none⟩)] w fun e w' => ∃ (w1 : World), Only b w w1 ∧ (∀ j, j < m → w1.cell? ⟨b, j, none⟩ = some (.int .i64 (-(f j)))) ∧ (∀ j, m ≤ j → j < 7 → w1.cell? ⟨b, j, none⟩ = some (.int .i64 (f j))) ∧
      e = .returned (.iface 52 (.pointer (some ⟨w.heap.size + 1, 0, none⟩))) ∧ Below w.heap.size w1 w' ∧ w'.cell? ⟨w.heap.size + 1, 0 + 1, none⟩ = some (.iface 53 (.pointer (some a))) := by
  go_enter Ybaf.func5, Ybaf.ntmps5
  go_wp2
  go_loopw [6] (fun i wr => ∃ k : Nat, k ≤ m ∧ i = .int .i64 k ∧ Only b w wr ∧ (∀ j, j < k → wr.cell? ⟨b, j, none⟩ = some (.int .i64 (-(f j)))) ∧ (∀ j, k ≤ j → j < 7 → wr.cell? ⟨b, j, none⟩ = some (.int .i64 (f j)))) (fun i _ => 7 - (intOf i).toNat)
  case atStart => exact ⟨0, by omega, rfl, Only.refl _ _, by intro j hj; omega, fun j _ hj => hc j hj⟩
  case round =>
    obtain ⟨k, hk, rfl, ho, h1, h2⟩ := hrel
    have hk7 : k < 7 := by omega
    have g := h2 k (by omega) hk7
    have gz : wr.frozen? ⟨b, k, none⟩ = false := (ho.frozen k).trans (hf k hk7)
    have gh := hhi k hk7
    by_cases hlt : k < m
    · have gl := hlo k hlt
      have ge : (f k == -9223372036854775808) = false := beq_eq_false_iff_ne.2 (by omega)
      clear hmin
      go_wp2
      go_quiet (fail)
      go_wp2
      exact ⟨⟨k + 1, by omega, by go_num, (ho.drewN nq).setCell _ _, step_done g h1, step_rest h2⟩, by simp [intOf]; omega⟩
    · obtain rfl : k = m := by omega
      have ge : (f k == -9223372036854775808) = true := beq_iff_eq.2 hmin
      clear hmin
      go_wp2
      go_quiet (fail)
      go_wp2_with fail
      have hz : (wr.drewN nq).heap.size = w.heap.size := ho.size
      have ca : wr.cell? a = some (.string s) := (World.cell?_of_block (w := w) (ho.block a.block hab)).trans hs
      have cc := cannot F k a s n (wr.drewN nq) (by show F.answers wr.tape; rw [ho.tape]; exact hF) hm ((World.cell?_of_block (w := w) (a := ⟨0, 0, none⟩) (ho.block 0 (by omega))).trans hg) ((World.cell?_of_block (w := w) (a := ⟨1, k, none⟩) (ho.block 1 (by omega))).trans hn)
        (fun o => by rw [World.cell?_alloc_lt _ _ _ (by show a.block < wr.heap.size; exact World.block_lt_of_cell? _ _ ca)]; exact ca)
      rw [hz] at cc
      refine cc.mono ?_
      rintro e w' ⟨rfl, hb, hc'⟩
      clear cc
      go_wp2
      go_ret
      exact ⟨wr.drewN nq, ho.drewN nq, h1, h2, rfl, hb, hc'⟩

/-! errors.Is, after the kit's worked text at another dump. -/
theorem isTypeOf (v : Value) (w : World) : (Extern.ReflectliteType.typeOf #[.iface 53 v]).run Ybaf.prog w = .ok (.iface 40 (.agg #[.pointer (some ⟨2, 53, none⟩)])) w := by kernel_rfl
theorem isComparable (w : World) : (callFunc 31 #[.agg #[.pointer (some ⟨2, 53, none⟩)]]).run Ybaf.prog w = .ok (.value (.bool true)) w := by kernel_rfl
theorem isMethodComparable (v : Value) (w : World) : (Go.method 195 40 v "Comparable").run Ybaf.prog w = .ok (31, v) w := by kernel_rfl
theorem methodUnwrap (v : Value) (w : World) : (Go.method 195 52 v "Unwrap").run Ybaf.prog w = .ok (41, v) w := by kernel_rfl
theorem isComp : (Ybaf.prog.info? 53).map (·.comparable) = some true := by kernel_rfl
theorem isSize : (Ybaf.prog.info? 55).map (·.size) = some 1 := by kernel_rfl
theorem noIsW (v : Value) (xT : TypeId) (w : World) : (Instr.typeAssert (.iface 52 v) xT 42 true).run Ybaf.prog w = .ok (.tuple #[.nilIface, .bool false]) w := run_typeAssert_lacksB Ybaf.underlying42 (by kernel_rfl) (by kernel_rfl) v xT w
theorem hasUnwrapW (v : Value) (xT : TypeId) (w : World) : (Instr.typeAssert (.iface 52 v) xT 45 true).run Ybaf.prog w = .ok (.tuple #[.iface 52 v, .bool true]) w := run_typeAssert_hasB Ybaf.underlying45 (by kernel_rfl) v xT w

set_option maxHeartbeats 800000 in
theorem is_wrap_same (pb po : Nat) (b : Addr) (w : World) (h1 : w.cell? ⟨pb, po + 1, none⟩ = some (.iface 53 (.pointer (some b)))) :
    Calls Ybaf.prog 6 #[.iface 52 (.pointer (some ⟨pb, po, none⟩)), .iface 53 (.pointer (some b))] w fun e w' => e = .returned (.bool true) ∧ w' = w := by
  obtain ⟨i, hi, hcmp⟩ := Option.map_eq_some_iff.1 isComp
  obtain ⟨j, hj, hjs⟩ := Option.map_eq_some_iff.1 isSize
  have h8 := @run_callFunc_extern Ybaf.prog 8 _ Extern.ReflectliteType.typeOf Ybaf.func8 (by kernel_rfl) (by kernel_rfl) (by kernel_rfl) (by kernel_rfl)
  have tT := isTypeOf
  have cT := isComparable
  have mR := isMethodComparable
  have mU := methodUnwrap
  have nW := noIsW
  have uW := hasUnwrapW
  have heq := run_eql_iface_ptr_same (P := Ybaf.prog) w b Ybaf.underlying24 Ybaf.underlying53 hi hcmp hj
  have hty := run_eql_iface_types (P := Ybaf.prog) 52 53 (.pointer (some ⟨pb, po, none⟩)) (.pointer (some b)) Ybaf.underlying24 (by decide) w
  go_enter Ybaf.func6, Ybaf.ntmps6
  go_wp2
  refine wp_loop_rounds 2 ?_
  rw [rounds_succ]
  go_wp2
  rw [rounds_succ]
  go_wp2
  go_ret
  exact ⟨rfl, rfl⟩

end Go.Proofs.YbulkcruwFmt
