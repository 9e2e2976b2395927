import Derived.Test.YbulkcrtuJ0
namespace Go.Proofs.Ybulkcrtu
open Go.RowKit Go.ChangeMaps Go.MapKept Go.MuLone

/-- The code after the first k members of a row. -/
def dropC : Nat → Code → Code
  | 0, c => c
  | k + 1, .seq _ b => dropC k b
  | _ + 1, c => c
/-- The first k members, then X. -/
def putTail : Nat → Code → Code → Code
  | 0, _, X => X
  | k + 1, .seq a b, X => .seq a (putTail k b X)
  | _ + 1, _, X => X
theorem putTail_self : ∀ (k : Nat) (c : Code), putTail k c (dropC k c) = c
  | 0, _ => rfl
  | k + 1, c => by
    cases c with
    | seq a b => show Code.seq a (putTail k b (dropC k b)) = _; rw [putTail_self k b]
    | _ => rfl
def IsTail (k : Nat) (c : Code) : Prop := ∃ b, Yba.f4.body = some b ∧ dropC k b = c
theorem list_range (l : List Value) : l = (List.range l.length).map (fun i => l.getD i undef) := by
  apply List.ext_getElem
  · simp
  · intro i h1 h2
    simp [List.getElem?_eq_getElem h1]
theorem range303 (g : Nat → Value) : (List.range 303).map g = [g 0, g 1, g 2, g 3, g 4, g 5, g 6, g 7, g 8, g 9, g 10, g 11, g 12, g 13, g 14, g 15, g 16, g 17, g 18, g 19, g 20, g 21, g 22, g 23, g 24, g 25, g 26, g 27, g 28, g 29, g 30, g 31, g 32, g 33, g 34, g 35, g 36, g 37, g 38, g 39, g 40, g 41, g 42, g 43, g 44, g 45, g 46, g 47, g 48, g 49, g 50, g 51, g 52, g 53, g 54, g 55, g 56, g 57, g 58, g 59, g 60, g 61, g 62, g 63, g 64, g 65, g 66, g 67, g 68, g 69, g 70, g 71, g 72, g 73, g 74, g 75, g 76, g 77, g 78, g 79, g 80, g 81, g 82, g 83, g 84, g 85, g 86, g 87, g 88, g 89, g 90, g 91, g 92, g 93, g 94, g 95, g 96, g 97, g 98, g 99, g 100, g 101, g 102, g 103, g 104, g 105, g 106, g 107, g 108, g 109, g 110, g 111, g 112, g 113, g 114, g 115, g 116, g 117, g 118, g 119, g 120, g 121, g 122, g 123, g 124, g 125, g 126, g 127, g 128, g 129, g 130, g 131, g 132, g 133, g 134, g 135, g 136, g 137, g 138, g 139, g 140, g 141, g 142, g 143, g 144, g 145, g 146, g 147, g 148, g 149, g 150, g 151, g 152, g 153, g 154, g 155, g 156, g 157, g 158, g 159, g 160, g 161, g 162, g 163, g 164, g 165, g 166, g 167, g 168, g 169, g 170, g 171, g 172, g 173, g 174, g 175, g 176, g 177, g 178, g 179, g 180, g 181, g 182, g 183, g 184, g 185, g 186, g 187, g 188, g 189, g 190, g 191, g 192, g 193, g 194, g 195, g 196, g 197, g 198, g 199, g 200, g 201, g 202, g 203, g 204, g 205, g 206, g 207, g 208, g 209, g 210, g 211, g 212, g 213, g 214, g 215, g 216, g 217, g 218, g 219, g 220, g 221, g 222, g 223, g 224, g 225, g 226, g 227, g 228, g 229, g 230, g 231, g 232, g 233, g 234, g 235, g 236, g 237, g 238, g 239, g 240, g 241, g 242, g 243, g 244, g 245, g 246, g 247, g 248, g 249, g 250, g 251, g 252, g 253, g 254, g 255, g 256, g 257, g 258, g 259, g 260, g 261, g 262, g 263, g 264, g 265, g 266, g 267, g 268, g 269, g 270, g 271, g 272, g 273, g 274, g 275, g 276, g 277, g 278, g 279, g 280, g 281, g 282, g 283, g 284, g 285, g 286, g 287, g 288, g 289, g 290, g 291, g 292, g 293, g 294, g 295, g 296, g 297, g 298, g 299, g 300, g 301, g 302] := by kernel_rfl
/-- A frame of 303 slots, laid open. -/
theorem frame303 (A : Act) (h : A.tmps.size = 303) (hd : A.defers = []) : ∃ g : Nat → Value, (∀ i, A.eval (.tmp i) = g i) ∧ A = { tmps := #[g 0, g 1, g 2, g 3, g 4, g 5, g 6, g 7, g 8, g 9, g 10, g 11, g 12, g 13, g 14, g 15, g 16, g 17, g 18, g 19, g 20, g 21, g 22, g 23, g 24, g 25, g 26, g 27, g 28, g 29, g 30, g 31, g 32, g 33, g 34, g 35, g 36, g 37, g 38, g 39, g 40, g 41, g 42, g 43, g 44, g 45, g 46, g 47, g 48, g 49, g 50, g 51, g 52, g 53, g 54, g 55, g 56, g 57, g 58, g 59, g 60, g 61, g 62, g 63, g 64, g 65, g 66, g 67, g 68, g 69, g 70, g 71, g 72, g 73, g 74, g 75, g 76, g 77, g 78, g 79, g 80, g 81, g 82, g 83, g 84, g 85, g 86, g 87, g 88, g 89, g 90, g 91, g 92, g 93, g 94, g 95, g 96, g 97, g 98, g 99, g 100, g 101, g 102, g 103, g 104, g 105, g 106, g 107, g 108, g 109, g 110, g 111, g 112, g 113, g 114, g 115, g 116, g 117, g 118, g 119, g 120, g 121, g 122, g 123, g 124, g 125, g 126, g 127, g 128, g 129, g 130, g 131, g 132, g 133, g 134, g 135, g 136, g 137, g 138, g 139, g 140, g 141, g 142, g 143, g 144, g 145, g 146, g 147, g 148, g 149, g 150, g 151, g 152, g 153, g 154, g 155, g 156, g 157, g 158, g 159, g 160, g 161, g 162, g 163, g 164, g 165, g 166, g 167, g 168, g 169, g 170, g 171, g 172, g 173, g 174, g 175, g 176, g 177, g 178, g 179, g 180, g 181, g 182, g 183, g 184, g 185, g 186, g 187, g 188, g 189, g 190, g 191, g 192, g 193, g 194, g 195, g 196, g 197, g 198, g 199, g 200, g 201, g 202, g 203, g 204, g 205, g 206, g 207, g 208, g 209, g 210, g 211, g 212, g 213, g 214, g 215, g 216, g 217, g 218, g 219, g 220, g 221, g 222, g 223, g 224, g 225, g 226, g 227, g 228, g 229, g 230, g 231, g 232, g 233, g 234, g 235, g 236, g 237, g 238, g 239, g 240, g 241, g 242, g 243, g 244, g 245, g 246, g 247, g 248, g 249, g 250, g 251, g 252, g 253, g 254, g 255, g 256, g 257, g 258, g 259, g 260, g 261, g 262, g 263, g 264, g 265, g 266, g 267, g 268, g 269, g 270, g 271, g 272, g 273, g 274, g 275, g 276, g 277, g 278, g 279, g 280, g 281, g 282, g 283, g 284, g 285, g 286, g 287, g 288, g 289, g 290, g 291, g 292, g 293, g 294, g 295, g 296, g 297, g 298, g 299, g 300, g 301, g 302], defers := [] } := by
  obtain ⟨⟨l⟩, d⟩ := A
  subst hd
  have hl : l.length = 303 := h
  refine ⟨fun i => l.getD i undef, fun i => ?_, ?_⟩
  · rw [eval_tmp]
    simp
  · have := list_range l
    rw [hl, range303] at this
    exact congrArg (fun l => Act.mk ⟨l⟩ []) this

end Go.Proofs.Ybulkcrtu
