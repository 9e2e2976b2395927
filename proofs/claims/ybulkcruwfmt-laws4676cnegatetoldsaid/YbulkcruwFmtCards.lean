/-
  DERIVED. GIVEN WITH THE SEED: THE CARDS: each row of YbulkcruwFmtRows.lean that lists a variable, with what it lists TIED to the program's text (the seventh form; the later family's looks); each row that meets fmt, with fmt's text TOLD by the authors' own Lean function (tested against real Go, not proved from fmt's source: count such statements apart). THE CARD IS WHAT COUNTS. Prove the row's statement (the work); the ties are given (YbulkcruwFmtTie.lean); close each card by the builder's one call (the guide's Derived/Test/ToyasCard.lean, 'card_holds'). Laid BY PROGRAM, IN A SANDBOX (cutbox-door.mjs). By AI agents, Wed Nov 11 2026. No macro, syntax, notation, axiom, sorry.
-/
import Derived.Test.YbulkcruwFmtRows
import GoSem.ClaimSeven
namespace Go.Proofs.YbulkcruwFmt
namespace Rows

/-- THE TOLD AND TIED CARD OF 'spanwise.LawS4676CNegate'. -/
def lawS4676CNegateCard : Claim7 := { stood := { row := lawS4676CNegateRow, standIns := [], harness := (true, "4082494c630697e8244e134130adeedba12f28bcad3329786a36aa2649b61803"), looks := true }, told := true, laidByText := true, laidKinds := [.sentinel, .wider], laidTests := true, laidLooks := .later, goes := false }
def LawS4676CNegateToldSaid : Prop := Claim7.holds Ybaf.pinned (.plain (OpenSpec.ofChange lawS4676CNegateSpec)) lawS4676CNegateCard
/-- ITS FALSE NEIGHBOUR. Refute it at one input. -/
def LawS4676CNegateToldWrongFalsely : Prop := Claim7.holds Ybaf.pinned (.plain (OpenSpec.ofChange lawS4676CNegateWrong)) lawS4676CNegateCard

/-- THE TOLD AND TIED CARD OF 'spanwise.LawS4676CTwice'. -/
def lawS4676CTwiceCard : Claim7 := { stood := { row := lawS4676CTwiceRow, standIns := [], harness := (true, "4082494c630697e8244e134130adeedba12f28bcad3329786a36aa2649b61803"), looks := true }, told := true, laidByText := true, laidKinds := [.sentinel, .wider], laidTests := true, laidLooks := .later, goes := false }
def LawS4676CTwiceToldSaid : Prop := Claim7.holds Ybaf.pinned (.plain (OpenSpec.ofChange lawS4676CTwiceSpec)) lawS4676CTwiceCard
/-- ITS FALSE NEIGHBOUR. Refute it at one input. -/
def LawS4676CTwiceToldWrongFalsely : Prop := Claim7.holds Ybaf.pinned (.plain (OpenSpec.ofChange lawS4676CTwiceWrong)) lawS4676CTwiceCard
end Rows
end Go.Proofs.YbulkcruwFmt
