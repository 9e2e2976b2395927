/-
  NARROWER THAN 'FOR EVERY INPUT', by the rows' own cells (each row's printed sentence says how): LawS4680ANodesSysctls: laid · LawS4680ALinksRoutes: laid.
  DERIVED. THE GIVEN ROWS OF THIS SEAT. 2 by the template 'for every input the law returns true; each argument reads behind the call as it read before'; 0 by the template 'total and deterministic' (their statements: YbulkcrxaDoorTotals.lean).
  GIVEN WITH THE SEED: the statements are not yours to turn. If you find one false, say at which input.
  Laid BY PROGRAM, IN A SANDBOX (cutbox-rows.mjs): the forced cells as the released guide's own fill.sh prints them over the translation d408f24eeedec5dd… (all of the seat's roots in one cut). By AI agents, Wed Nov 11 2026. No macro, syntax, notation, axiom, sorry.
-/
import Derived.Test.YbulkcrxaDoorChecked
import GoSem.Claim
import GoSem.ClaimJoined
import GoSem.ClaimMapViews
import Derived.JoinedTies
import Derived.KernelRfl
namespace Go.Proofs.YbulkcrxaDoor
/- THE CELL 'sum', in the pinned program and in every row, IS THE sha256 OF THE DUMP (.gsa) THAT YbulkcrxaDoorProg.lean LOADS. Nothing in Lean hashes anything: it is a label: what it is worth is what the hold of that sum in a sandbox is worth. -/
noncomputable def Ybad.pinned : Pinned := { name := "ybulkcrxadoor", sum := "d408f24eeedec5ddf5d5e9b4cbe11caa642a78d3d16b4b30c2680c07df19dce9", checked := Ybad.checked }
namespace Rows
def none {H : Type} : Left H := { results := [], args := [] }

/- WHAT THE LISTED PACKAGE-LEVEL VARIABLES READ AS WHEN THE CALL BEGINS. Each datum BY PROGRAM (the guide's laid-datum.mjs) off the statement by which the dump's own 'gosem.cut.vars' lays the variable. In a bare row this is a premise. The card (YbulkcrxaDoorCards.lean) ties it to the program's text. -/
def laid_net_netip_z4 {H : Type} : DataW H := .agg [.ptr (.agg [.lit (.bool false), .lit (.string [])])]
def laid_net_netip_z6noz {H : Type} : DataW H := .agg [.ptr (.agg [.lit (.bool true), .lit (.string [])])]
def laid_net_netip_z0 {H : Type} : DataW H := .agg [.nil]

/-- 'topo.LawS4680ANodesSysctls': WHATEVER THE INPUT: true; the input reads as it did. -/
def lawS4680ANodesSysctlsSpec : ChangeSpec := { name := "lawS4680ANodesSysctls", fn := fun _ => fun
  | [d1, d2] => { results := [.lit (.bool true)], args := [d1, d2] }
  | _ => none }
def lawS4680ANodesSysctlsRow : OpenClaim := { program := "ybulkcrxadoor", sum := "d408f24eeedec5ddf5d5e9b4cbe11caa642a78d3d16b4b30c2680c07df19dce9", func := "example.com/hither/hither/internal/topo.LawS4680ANodesSysctls", spec := "lawS4680ANodesSysctls", named := ["net/netip.z4", "net/netip.z0", "net/netip.z6noz"], apart := false, laid := [("net/netip.z4", laid_net_netip_z4), ("net/netip.z6noz", laid_net_netip_z6noz), ("net/netip.z0", laid_net_netip_z0)] }
def LawS4680ANodesSysctlsSaid : Prop := lawS4680ANodesSysctlsRow.holds Ybad.pinned (OpenSpec.ofChange lawS4680ANodesSysctlsSpec)

/-- ITS FALSE NEIGHBOUR: 'it returns false'. Refute it at one input. -/
def lawS4680ANodesSysctlsWrong : ChangeSpec := { name := "lawS4680ANodesSysctls", fn := fun _ => fun
  | [d1, d2] => { results := [.lit (.bool false)], args := [d1, d2] }
  | _ => none }
def LawS4680ANodesSysctlsWrongFalsely : Prop := lawS4680ANodesSysctlsRow.holds Ybad.pinned (OpenSpec.ofChange lawS4680ANodesSysctlsWrong)

/-- 'topo.LawS4680ALinksRoutes': WHATEVER THE INPUT: true; the input reads as it did. -/
def lawS4680ALinksRoutesSpec : ChangeSpec := { name := "lawS4680ALinksRoutes", fn := fun _ => fun
  | [d1, d2] => { results := [.lit (.bool true)], args := [d1, d2] }
  | _ => none }
def lawS4680ALinksRoutesRow : OpenClaim := { program := "ybulkcrxadoor", sum := "d408f24eeedec5ddf5d5e9b4cbe11caa642a78d3d16b4b30c2680c07df19dce9", func := "example.com/hither/hither/internal/topo.LawS4680ALinksRoutes", spec := "lawS4680ALinksRoutes", named := ["net/netip.z4", "net/netip.z0", "net/netip.z6noz"], apart := false, laid := [("net/netip.z4", laid_net_netip_z4), ("net/netip.z6noz", laid_net_netip_z6noz), ("net/netip.z0", laid_net_netip_z0)] }
def LawS4680ALinksRoutesSaid : Prop := lawS4680ALinksRoutesRow.holds Ybad.pinned (OpenSpec.ofChange lawS4680ALinksRoutesSpec)

/-- ITS FALSE NEIGHBOUR: 'it returns false'. Refute it at one input. -/
def lawS4680ALinksRoutesWrong : ChangeSpec := { name := "lawS4680ALinksRoutes", fn := fun _ => fun
  | [d1, d2] => { results := [.lit (.bool false)], args := [d1, d2] }
  | _ => none }
def LawS4680ALinksRoutesWrongFalsely : Prop := lawS4680ALinksRoutesRow.holds Ybad.pinned (OpenSpec.ofChange lawS4680ALinksRoutesWrong)

end Rows
end Go.Proofs.YbulkcrxaDoor
