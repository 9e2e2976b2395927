import Derived.Test.YbulkcrtuM3
namespace Go.Proofs.Ybulkcrtu
open Go.RowKit Go.ChangeMaps Go.MapKept Go.MuLone

theorem MapU.pos {w : World} {b n sz : Nat} {f : Int → Option Value} (h : MapU w b n sz f) {x : Int} (hx : Id x) (hy : (f x).isSome = true) : 0 < sz := by
  obtain ⟨D, h, rfl, r⟩ := h
  have h1 := (r x hx).1
  rw [hy] at h1
  cases D with
  | map es =>
    cases es with
    | nil => simp [Maps.has] at h1
    | cons p t => simp [Maps.size]
  | _ => simp [Maps.has] at h1
/-- A call, told whom it went to. -/
def toldC (x port : Int) (S cnt : Nat) (ans : Bool) : Array Value :=
  ((((((callC x).setIfInBounds 259 (.int .u64 0)).setIfInBounds 260 (.int .u64 0)).setIfInBounds 261 (.pointer none)).setIfInBounds 262 (.int .u16 port)).setIfInBounds 271 (.slice (some ⟨S, 0, none⟩) cnt cnt)).setIfInBounds 272 (.bool ans)
theorem toldC_at (x port : Int) (S cnt : Nat) (ans : Bool) : (toldC x port S cnt ans)[1]? = some (.int .u32 x) ∧ (toldC x port S cnt ans)[259]? = some (.int .u64 0) ∧ (toldC x port S cnt ans)[260]? = some (.int .u64 0) ∧ (toldC x port S cnt ans)[261]? = some (.pointer none) ∧ (toldC x port S cnt ans)[262]? = some (.int .u16 port) ∧ (toldC x port S cnt ans)[268]? = some (.int .i32 0) ∧ (toldC x port S cnt ans)[271]? = some (.slice (some ⟨S, 0, none⟩) cnt cnt) ∧ (toldC x port S cnt ans)[272]? = some (.bool ans) := by
  refine ⟨?_, ?_, ?_, ?_, ?_, ?_, ?_, ?_⟩ <;> kernel_rfl

end Go.Proofs.Ybulkcrtu
