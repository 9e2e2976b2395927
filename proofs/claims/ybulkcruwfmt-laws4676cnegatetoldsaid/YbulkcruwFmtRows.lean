/-
  NARROWER THAN 'FOR EVERY INPUT', by the rows' own cells (each row's printed sentence says how): LawS4676CNegate: ifaces, laid · LawS4676CTwice: ifaces, laid.
  DERIVED. THE GIVEN ROWS OF THIS SEAT. 2 by the template 'for every input the law returns true; each argument reads behind the call as it read before'; 0 by the template 'total and deterministic' (their statements: YbulkcruwFmtTotals.lean).
  GIVEN WITH THE SEED: the statements are not yours to turn. If you find one false, say at which input.
  Laid BY PROGRAM, IN A SANDBOX (cutbox-rows.mjs): the forced cells as the released guide's own fill.sh prints them over the translation 9820079e4cd2996e… (all of the seat's roots in one cut). By AI agents, Wed Nov 11 2026. No macro, syntax, notation, axiom, sorry.
-/
import Derived.Test.YbulkcruwFmtChecked
import GoSem.Claim
import GoSem.ClaimJoined
import GoSem.ClaimMapViews
import Derived.JoinedTies
import Derived.KernelRfl
namespace Go.Proofs.YbulkcruwFmt
/- THE CELL 'sum', in the pinned program and in every row, IS THE sha256 OF THE DUMP (.gsa) THAT YbulkcruwFmtProg.lean LOADS. Nothing in Lean hashes anything: it is a label: what it is worth is what the hold of that sum in a sandbox is worth. -/
noncomputable def Ybaf.pinned : Pinned := { name := "ybulkcruwfmt", sum := "9820079e4cd2996e03d0661522483a4538d4d2132af2e8e422e63ca8eb7521fe", checked := Ybaf.checked }
namespace Rows
def none {H : Type} : Left H := { results := [], args := [] }

/- WHAT THE LISTED PACKAGE-LEVEL VARIABLES READ AS WHEN THE CALL BEGINS. Each datum BY PROGRAM (the guide's laid-datum.mjs) off the statement by which the dump's own 'gosem.cut.vars' lays the variable. In a bare row this is a premise. The card (YbulkcruwFmtCards.lean) ties it to the program's text. -/
def laid_example_com_spanwise_spanwise_ErrOutOfRange {H : Type} : DataW H := .iface "*errors.errorString" (.ptr (.agg [.lit (.string [111, 117, 116, 32, 111, 102, 32, 114, 97, 110, 103, 101])]))
def laid_example_com_spanwise_spanwise_unitNames {H : Type} : DataW H := .agg [.lit (.string [121, 101, 97, 114]), .lit (.string [109, 111, 110, 116, 104]), .lit (.string [100, 97, 121]), .lit (.string [104, 111, 117, 114]), .lit (.string [109, 105, 110, 117, 116, 101]), .lit (.string [115, 101, 99, 111, 110, 100]), .lit (.string [109, 105, 99, 114, 111, 115, 101, 99, 111, 110, 100])]

/-- 'spanwise.LawS4676CNegate': WHATEVER THE INPUT: true; the input reads as it did. -/
def lawS4676CNegateSpec : ChangeSpec := { name := "lawS4676CNegate", vars := ["example.com/spanwise/spanwise.ErrOutOfRange", "example.com/spanwise/spanwise.unitNames"], fn := fun _ => fun
  | [d1, d2, g1, g2] => { results := [.lit (.bool true)], args := [d1, d2], vars := [g1, g2] }
  | _ => none }
def lawS4676CNegateRow : OpenClaim := { program := "ybulkcruwfmt", sum := "9820079e4cd2996e03d0661522483a4538d4d2132af2e8e422e63ca8eb7521fe", func := "example.com/spanwise/spanwise.LawS4676CNegate", spec := "lawS4676CNegate", stops := ["fmt.errorf"], inPlace := ["fmt.errorf", "internal/reflectlite.TypeOf"], unfollowed := true, recurses := true, named := ["example.com/spanwise/spanwise.ErrOutOfRange", "example.com/spanwise/spanwise.unitNames"], ifaces := true, apart := false, laid := [("example.com/spanwise/spanwise.ErrOutOfRange", laid_example_com_spanwise_spanwise_ErrOutOfRange), ("example.com/spanwise/spanwise.unitNames", laid_example_com_spanwise_spanwise_unitNames)] }
/-- NO THEOREM (fmt's text is open here; it may be false): for the released tool's asking of the row's closed facts alone. THE STATEMENT IS 'LawS4676CNegateToldSaid' (YbulkcruwFmtCards.lean). -/
def LawS4676CNegateFormAsk : Prop := lawS4676CNegateRow.holds Ybaf.pinned (OpenSpec.ofChange lawS4676CNegateSpec)

/-- ITS FALSE NEIGHBOUR: 'it returns false'. Refute it at one input. -/
def lawS4676CNegateWrong : ChangeSpec := { name := "lawS4676CNegate", vars := ["example.com/spanwise/spanwise.ErrOutOfRange", "example.com/spanwise/spanwise.unitNames"], fn := fun _ => fun
  | [d1, d2, g1, g2] => { results := [.lit (.bool false)], args := [d1, d2], vars := [g1, g2] }
  | _ => none }
def LawS4676CNegateWrongFormAsk : Prop := lawS4676CNegateRow.holds Ybaf.pinned (OpenSpec.ofChange lawS4676CNegateWrong)

/-- 'spanwise.LawS4676CTwice': WHATEVER THE INPUT: true; the input reads as it did. -/
def lawS4676CTwiceSpec : ChangeSpec := { name := "lawS4676CTwice", vars := ["example.com/spanwise/spanwise.ErrOutOfRange", "example.com/spanwise/spanwise.unitNames"], fn := fun _ => fun
  | [d, g1, g2] => { results := [.lit (.bool true)], args := [d], vars := [g1, g2] }
  | _ => none }
def lawS4676CTwiceRow : OpenClaim := { program := "ybulkcruwfmt", sum := "9820079e4cd2996e03d0661522483a4538d4d2132af2e8e422e63ca8eb7521fe", func := "example.com/spanwise/spanwise.LawS4676CTwice", spec := "lawS4676CTwice", stops := ["fmt.errorf"], inPlace := ["fmt.errorf"], named := ["example.com/spanwise/spanwise.ErrOutOfRange", "example.com/spanwise/spanwise.unitNames"], ifaces := true, apart := false, laid := [("example.com/spanwise/spanwise.ErrOutOfRange", laid_example_com_spanwise_spanwise_ErrOutOfRange), ("example.com/spanwise/spanwise.unitNames", laid_example_com_spanwise_spanwise_unitNames)] }
/-- NO THEOREM (fmt's text is open here; it may be false): for the released tool's asking of the row's closed facts alone. THE STATEMENT IS 'LawS4676CTwiceToldSaid' (YbulkcruwFmtCards.lean). -/
def LawS4676CTwiceFormAsk : Prop := lawS4676CTwiceRow.holds Ybaf.pinned (OpenSpec.ofChange lawS4676CTwiceSpec)

/-- ITS FALSE NEIGHBOUR: 'it returns false'. Refute it at one input. -/
def lawS4676CTwiceWrong : ChangeSpec := { name := "lawS4676CTwice", vars := ["example.com/spanwise/spanwise.ErrOutOfRange", "example.com/spanwise/spanwise.unitNames"], fn := fun _ => fun
  | [d, g1, g2] => { results := [.lit (.bool false)], args := [d], vars := [g1, g2] }
  | _ => none }
def LawS4676CTwiceWrongFormAsk : Prop := lawS4676CTwiceRow.holds Ybaf.pinned (OpenSpec.ofChange lawS4676CTwiceWrong)

end Rows
end Go.Proofs.YbulkcruwFmt
