import Derived.Test.YbulkcrxaDoorN
import Derived.Deep.RegionHeld3
import Derived.Deep.DrawnRows
namespace Go.Proofs.YbulkcrxaDoor
open Go.RowKit

def tov (s : ByteArray) : ByteArray := ⟨#[116, 111, 45]⟩ ++ s
def PS : ByteArray := ⟨#[105, 110, 118, 97, 108, 105, 100, 32, 80, 114, 101, 102, 105, 120]⟩
def AS : ByteArray := ⟨#[105, 110, 118, 97, 108, 105, 100, 32, 73, 80]⟩
def Z51 : Obj := .cells #[.int .u64 0, .int .u64 0, .pointer none, .int .u8 0] 51
def Z49 : Obj := .cells #[.int .u64 0, .int .u64 0, .pointer none] 49

theorem if_any (s : ByteArray) (w : World) (hs : s.size ≤ 140737488351232) : Calls Ybad.prog 12 #[.string s] w fun e w' => e = .returned (.string (tov s)) ∧ w = w' := by
  go_enter Ybad.func12, Ybad.ntmps12
  go_wp2
  go_ret
  exact ⟨rfl, rfl⟩

theorem pstr_zero (w : World) : Calls Ybad.prog 9 #[.agg #[.int .u64 0, .int .u64 0, .pointer none, .int .u8 0]] w fun e w' => e = .returned (.string PS) ∧ (w.alloc Z51).alloc Z51 = w' := by
  go_enter Ybad.func9, Ybad.ntmps9
  go_wp2
  go_ret
  exact ⟨rfl, rfl⟩

set_option maxHeartbeats 400000 in
theorem astr_zero (w : World) (hz : w.cell? ⟨2, 0, none⟩ = some (.pointer none)) : Calls Ybad.prog 10 #[.agg #[.int .u64 0, .int .u64 0, .pointer none]] w fun e w' => e = .returned (.string AS) ∧ (w.alloc Z49).alloc Z49 = w' := by
  have h2 : 2 < w.heap.size := World.block_lt_of_cell? _ _ hz
  have h3 : 2 < w.heap.size + 1 := by omega
  have he : ∀ wx : World, (Op.equalIn 9999 45 (.pointer none) (.pointer none)).run Ybad.prog wx = .ok true wx := fun wx => by kernel_rfl
  go_enter Ybad.func10, Ybad.ntmps10
  go_wp2
  go_ret
  exact ⟨rfl, rfl⟩

def endCells (s : ByteArray) : List Value := [.string s, .int .u64 0, .int .u64 0, .pointer none, .int .u8 0, .int .u64 0, .int .u64 0, .pointer none, .int .u8 0]
def linkCells (p : ByteArray × ByteArray) : List Value := endCells p.1 ++ endCells p.2
def cellsL (ls : List (ByteArray × ByteArray)) : List Value := ls.flatMap linkCells
def OLinks (w : World) (base : Nat) (v : Value) (ls : List (ByteArray × ByteArray)) : Prop := w.ownsRow base 58 18 v ls.length (cellsL ls)
/-- A slice of links, as memory holds it. -/
def Links (w : World) (v : Value) (ls : List (ByteArray × ByteArray)) : Prop :=
  ∃ a cap, v = .slice a ls.length cap ∧ (ls = [] ∨ ∃ b off, a = some ⟨b, off, none⟩ ∧ ∀ i, i < ls.length → ∀ j, j < 18 → w.cell? ⟨b, off + i * 18 + j, none⟩ = (linkCells (ls.getD i default))[j]?)

theorem linkCells_len (p : ByteArray × ByteArray) : (linkCells p).length = 18 := rfl
theorem cellsL_at : ∀ (ls : List (ByteArray × ByteArray)) (i j : Nat), i < ls.length → j < 18 → (cellsL ls)[i * 18 + j]? = (linkCells (ls.getD i default))[j]?
  | [], _, _, h, _ => by simp at h
  | p :: r, 0, j, _, hj => by
    show (linkCells p ++ cellsL r)[0 * 18 + j]? = (linkCells p)[j]?
    rw [List.getElem?_append_left (by rw [linkCells_len]; omega), Nat.zero_mul, Nat.zero_add]
  | p :: r, i + 1, j, h, hj => by
    have ih := cellsL_at r i j (by simpa using h) hj
    show (linkCells p ++ cellsL r)[(i + 1) * 18 + j]? = _
    rw [List.getElem?_append_right (by rw [linkCells_len]; omega), linkCells_len, show (i + 1) * 18 + j - 18 = i * 18 + j by omega, ih]
    rfl

theorem OLinks.links {w : World} {base : Nat} {v : Value} {ls : List (ByteArray × ByteArray)} (h : OLinks w base v ls) : Links w v ls := by
  rcases h.2 with ⟨rfl, hn⟩ | ⟨g, cap, cur, rfl, _, _⟩
  · exact ⟨none, 0, by rw [hn], .inl (List.eq_nil_of_length_eq_zero hn)⟩
  · refine ⟨some ⟨g, 0, none⟩, cap, rfl, .inr ⟨g, 0, rfl, fun i hi j hj => ?_⟩⟩
    rw [Nat.zero_add, World.ownsRow.cellAt h (i * 18 + j) (by omega), cellsL_at ls i j hi hj]

theorem OLinks.push {w1 : World} {base : Nat} {v' : Value} {ls : List (ByteArray × ByteArray)} {p : ByteArray × ByteArray} (h : w1.ownsRow base 58 18 v' (ls.length + 1) (cellsL ls ++ linkCells p)) : OLinks w1 base v' (ls ++ [p]) := by
  unfold OLinks
  rw [List.length_append]
  simpa [cellsL] using h
theorem OLinks.shape {w : World} {base : Nat} {v : Value} {l : List (ByteArray × ByteArray)} (h : OLinks w base v l) : ∃ a c, v = .slice a l.length c := by
  rcases h.2 with ⟨e, e2⟩ | ⟨_, _, _, e, _⟩
  · exact ⟨none, 0, by rw [e, e2]⟩
  · exact ⟨_, _, e⟩

/-- A gateway slice: n zero addresses. -/
def Gws (w : World) (v : Value) (n : Nat) : Prop := ∃ b, v = .slice (some ⟨b, 0, none⟩) n n ∧ ∀ i, i < n → w.cell? ⟨b, i * 3, none⟩ = some (.int .u64 0) ∧ w.cell? ⟨b, i * 3 + 1, none⟩ = some (.int .u64 0) ∧ w.cell? ⟨b, i * 3 + 2, none⟩ = some (.pointer none)
def routeCells (p : ByteArray × Nat × Value) : List Value := [.string p.1, .int .u64 0, .int .u64 0, .pointer none, .int .u8 0, p.2.2]
def cellsR (rs : List (ByteArray × Nat × Value)) : List Value := rs.flatMap routeCells
def Routes (w : World) (v : Value) (rs : List (ByteArray × Nat × Value)) : Prop :=
  ∃ a cap, v = .slice a rs.length cap ∧ (rs = [] ∨ ∃ b off, a = some ⟨b, off, none⟩ ∧ ∀ i, i < rs.length → Gws w (rs.getD i default).2.2 (rs.getD i default).2.1 ∧ ∀ j, j < 6 → w.cell? ⟨b, off + i * 6 + j, none⟩ = (routeCells (rs.getD i default))[j]?)

theorem routeCells_len (p : ByteArray × Nat × Value) : (routeCells p).length = 6 := rfl
theorem cellsR_at : ∀ (rs : List (ByteArray × Nat × Value)) (i j : Nat), i < rs.length → j < 6 → (cellsR rs)[i * 6 + j]? = (routeCells (rs.getD i default))[j]?
  | [], _, _, h, _ => by simp at h
  | p :: r, 0, j, _, hj => by
    show (routeCells p ++ cellsR r)[0 * 6 + j]? = (routeCells p)[j]?
    rw [List.getElem?_append_left (by rw [routeCells_len]; omega), Nat.zero_mul, Nat.zero_add]
  | p :: r, i + 1, j, h, hj => by
    have ih := cellsR_at r i j (by simpa using h) hj
    show (routeCells p ++ cellsR r)[(i + 1) * 6 + j]? = _
    rw [List.getElem?_append_right (by rw [routeCells_len]; omega), routeCells_len, show (i + 1) * 6 + j - 6 = i * 6 + j by omega, ih]
    rfl

def linkRows (p : ByteArray × ByteArray) : List (List ByteArray) :=
  [[⟨#[105, 112]⟩, ⟨#[108, 105, 110, 107]⟩, ⟨#[97, 100, 100]⟩, tov p.2, ⟨#[110, 101, 116, 110, 115]⟩, hx p.1, ⟨#[116, 121, 112, 101]⟩, ⟨#[118, 101, 116, 104]⟩, ⟨#[112, 101, 101, 114]⟩, ⟨#[110, 97, 109, 101]⟩, tov p.1, ⟨#[110, 101, 116, 110, 115]⟩, hx p.2]]
def endRows (a b : ByteArray) : List (List ByteArray) :=
  [[⟨#[105, 112]⟩, ⟨#[45, 110]⟩, hx a, ⟨#[97, 100, 100, 114]⟩, ⟨#[97, 100, 100]⟩, PS, ⟨#[100, 101, 118]⟩, tov b],
   [⟨#[105, 112]⟩, ⟨#[45, 110]⟩, hx a, ⟨#[97, 100, 100, 114]⟩, ⟨#[97, 100, 100]⟩, PS, ⟨#[100, 101, 118]⟩, tov b, ⟨#[110, 111, 100, 97, 100]⟩],
   [⟨#[105, 112]⟩, ⟨#[45, 110]⟩, hx a, ⟨#[108, 105, 110, 107]⟩, ⟨#[115, 101, 116]⟩, tov b, ⟨#[117, 112]⟩]]
def linkPart (p : ByteArray × ByteArray) : List (List ByteArray) := linkRows p ++ endRows p.1 p.2 ++ endRows p.2 p.1
def routeHead (n : ByteArray) : List ByteArray := [⟨#[105, 112]⟩, ⟨#[45, 110]⟩, hx n, ⟨#[114, 111, 117, 116, 101]⟩, ⟨#[97, 100, 100]⟩, PS]
def hops : Nat → List ByteArray
  | 0 => []
  | g + 1 => hops g ++ [⟨#[110, 101, 120, 116, 104, 111, 112]⟩, ⟨#[118, 105, 97]⟩, AS]
def routeRow (n : ByteArray) (g : Nat) : List ByteArray := routeHead n ++ (if g = 1 then [⟨#[118, 105, 97]⟩, AS] else hops g)
def linksCmds (ls : List (ByteArray × ByteArray)) : List (List ByteArray) := ls.flatMap linkPart
def routesCmds (rs : List (ByteArray × Nat)) : List (List ByteArray) := rs.map fun p => routeRow p.1 p.2

theorem linksCmds_snoc (ls : List (ByteArray × ByteArray)) (p : ByteArray × ByteArray) : linksCmds (ls ++ [p]) = linksCmds ls ++ linkRows p ++ endRows p.1 p.2 ++ endRows p.2 p.1 := by
  simp [linksCmds, linkPart]
theorem linksCmds_len (ls : List (ByteArray × ByteArray)) : (linksCmds ls).length = 7 * ls.length := by
  induction ls with
  | nil => rfl
  | cons a r ih =>
    have e : linksCmds (a :: r) = linkPart a ++ linksCmds r := rfl
    rw [e, List.length_append, ih]
    simp [linkPart, linkRows, endRows]; omega

end Go.Proofs.YbulkcrxaDoor
