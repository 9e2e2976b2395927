import Derived.Test.YbulkcrtuG
namespace Go.Proofs.Ybulkcrtu
open Go.RowKit Go.ChangeMaps Go.MapKept Go.MuLone

theorem info37 : (Yba.prog.info? 37).map (·.size) = some 4 := by kernel_rfl
def apV (port : Int) : Value := .agg #[.int .u64 0, .int .u64 0, .pointer none, .int .u16 port]
set_option maxHeartbeats 1000000 in
theorem ap_any (port : Int) (w : World) : Calls Yba.prog 13 #[.agg #[.int .u64 0, .int .u64 0, .pointer none], .int .u16 port] w fun e w' => e = .returned (apV port) ∧ Below w.heap.size w w' := by
  go_enter Yba.func13, Yba.ntmps13
  go_wp2
  refine bodyPost_ret (results_cell_row rfl _ _ (w.heap.size + 1) 37 _ (0, 0) _ rfl (heap2b _ _ _) Yba.underlying37 rfl info37) rfl ?_
  exact ⟨rfl, below_al0 (below_al0 (Below.refl _ _))⟩

/-- The cells of a message that bears only its number. -/
def mC1 : List Value := [.int .u32 0]
def mC2 : List Value := List.replicate 65 (.int .u8 0)
def mC3 : List Value := [.int .u64 0, .int .u64 0]
def mC4 : List Value := [.pointer none]
def mC5 : List Value := [.int .u16 0]
def mC6 : List Value := List.replicate 5 (.bool false)
def mC7 : List Value := [.slice none 0 0, .slice none 0 0]
def mC8 : List Value := List.replicate 32 (.int .u8 0)
def mC9 : List Value := [.int .i64 0]
def mC10 : List Value := [.int .u32 0]
def mC11 : List Value := [.int .u64 0, .int .u64 0]
def mC12 : List Value := [.pointer none]
def mC13 : List Value := [.int .u16 0]
def mC14 : List Value := [.slice none 0 0]
def mC15 : List Value := [.bool false]
def mC16 : List Value := [.string ⟨#[]⟩]
def mC17 : List Value := [.bool false]
def mC18 : List Value := [.pointer none]
def mC19 : List Value := List.replicate 64 (.int .u8 0)
def mC20 : List Value := [.bool false, .bool false]
def mC21 : List Value := [.int .i64 0]
def mC22 : List Value := List.replicate 64 (.int .u8 0)
def mC23 : List Value := [.slice none 0 0]
def mC24 : List Value := [.bool false]
def mC25 : List Value := [.int .i64 0]
def mC26 : List Value := [.slice none 0 0, .slice none 0 0]
def mC27 : List Value := [.bool false]
def mC0 (x : Int) : List Value := [.int .u8 0, .int .u32 x]
def msgC (x : Int) : List Value := mC0 x ++ (mC1 ++ (mC2 ++ (mC3 ++ (mC4 ++ (mC5 ++ (mC6 ++ (mC7 ++ (mC8 ++ (mC9 ++ (mC10 ++ (mC11 ++ (mC12 ++ (mC13 ++ (mC14 ++ (mC15 ++ (mC16 ++ (mC17 ++ (mC18 ++ (mC19 ++ (mC20 ++ (mC21 ++ (mC22 ++ (mC23 ++ (mC24 ++ (mC25 ++ (mC26 ++ (mC27)))))))))))))))))))))))))))
def msgV (x : Int) : Value := .agg (msgC x).toArray
/-- The cells of a call that bears only its number. -/
def tailC : List Value := [.int .u64 0, .int .u64 0, .pointer none, .int .u16 0, .chan none, .int .u8 0, .int .u8 0, .bool false, .int .u32 0, .int .i32 0, .int .u32 0, .bool false, .slice none 0 0, .bool false]
def callC (x : Int) : Array Value := (msgC x ++ tailC).toArray
theorem build109 (x : Int) (w : World) : (Instr.build 109 #[(1, .int .u32 x)]).run Yba.prog w = .ok (msgV x) w := by kernel_rfl
theorem build114 (x : Int) (w : World) : (Instr.build 114 #[(0, msgV x)]).run Yba.prog w = .ok (.agg (callC x)) w := by kernel_rfl
theorem callC_at (x : Int) : (callC x)[1]? = some (.int .u32 x) ∧ (callC x)[259]? = some (.int .u64 0) ∧ (callC x)[260]? = some (.int .u64 0) ∧ (callC x)[261]? = some (.pointer none) ∧ (callC x)[262]? = some (.int .u16 0) ∧ (callC x)[268]? = some (.int .i32 0) ∧ (callC x)[271]? = some (.slice none 0 0) ∧ (callC x)[272]? = some (.bool false) := by
  refine ⟨?_, ?_, ?_, ?_, ?_, ?_, ?_, ?_⟩ <;> kernel_rfl
theorem callC_size (x : Int) : (callC x).size = 273 := by kernel_rfl

end Go.Proofs.Ybulkcrtu
