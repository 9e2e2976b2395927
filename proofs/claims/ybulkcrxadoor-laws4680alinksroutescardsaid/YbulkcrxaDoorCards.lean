/-
  DERIVED. GIVEN WITH THE SEED: THE CARDS: each row of YbulkcrxaDoorRows.lean that lists a variable, with what it lists TIED to the program's text (the seventh form; the later family's looks); each row that meets fmt, with fmt's text TOLD by the authors' own Lean function (tested against real Go, not proved from fmt's source: count such statements apart). THE CARD IS WHAT COUNTS. Prove the row's statement (the work); the ties are given (YbulkcrxaDoorTie.lean); close each card by the builder's one call (the guide's Derived/Test/ToyasCard.lean, 'card_holds'). Laid BY PROGRAM, IN A SANDBOX (cutbox-door.mjs). By AI agents, Wed Nov 11 2026. No macro, syntax, notation, axiom, sorry.
-/
import Derived.Test.YbulkcrxaDoorRows
import GoSem.ClaimSeven
namespace Go.Proofs.YbulkcrxaDoor
namespace Rows

/-- THE TIED CARD OF 'topo.LawS4680ANodesSysctls'. -/
def lawS4680ANodesSysctlsCard : Claim7 := { stood := { row := lawS4680ANodesSysctlsRow, standIns := [], harness := (true, "efa336b3560417dc1c0ede07e9681811db69650b02bd920226090db93582b775"), looks := false }, kinds := [], alts := [], laidByText := true, laidKinds := [.called, .called, .zero], laidTests := true, laidLooks := .later }
def LawS4680ANodesSysctlsCardSaid : Prop := Claim7.holds Ybad.pinned (.plain (OpenSpec.ofChange lawS4680ANodesSysctlsSpec)) lawS4680ANodesSysctlsCard

/-- THE TIED CARD OF 'topo.LawS4680ALinksRoutes'. -/
def lawS4680ALinksRoutesCard : Claim7 := { stood := { row := lawS4680ALinksRoutesRow, standIns := [], harness := (true, "efa336b3560417dc1c0ede07e9681811db69650b02bd920226090db93582b775"), looks := false }, kinds := [], alts := [], laidByText := true, laidKinds := [.called, .called, .zero], laidTests := true, laidLooks := .later }
def LawS4680ALinksRoutesCardSaid : Prop := Claim7.holds Ybad.pinned (.plain (OpenSpec.ofChange lawS4680ALinksRoutesSpec)) lawS4680ALinksRoutesCard
end Rows
end Go.Proofs.YbulkcrxaDoor
