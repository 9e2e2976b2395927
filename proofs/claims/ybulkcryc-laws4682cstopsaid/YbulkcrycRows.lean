/-
  No cell of these rows narrows 'for every input' (looked for: loops, veiled, ifaces, maps, wideKeys, modest, calm, conditions, laid).
  DERIVED. THE GIVEN ROWS OF THIS SEAT. 2 by the template 'for every input the law returns true; each argument reads behind the call as it read before'; 0 by the template 'total and deterministic' (their statements: YbulkcrycTotals.lean).
  GIVEN WITH THE SEED: the statements are not yours to turn. If you find one false, say at which input.
  Laid BY PROGRAM, IN A SANDBOX (cutbox-rows.mjs): the forced cells as the released guide's own fill.sh prints them over the translation 68b59750a99ec31e… (all of the seat's roots in one cut). By AI agents, Wed Nov 11 2026. No macro, syntax, notation, axiom, sorry.
-/
import Derived.Test.YbulkcrycChecked
import GoSem.Claim
import GoSem.ClaimJoined
import GoSem.ClaimMapViews
import Derived.JoinedTies
import Derived.KernelRfl
namespace Go.Proofs.Ybulkcryc
/- THE CELL 'sum', in the pinned program and in every row, IS THE sha256 OF THE DUMP (.gsa) THAT YbulkcrycProg.lean LOADS. Nothing in Lean hashes anything: it is a label: what it is worth is what the hold of that sum in a sandbox is worth. -/
noncomputable def Yba.pinned : Pinned := { name := "ybulkcryc", sum := "68b59750a99ec31eb5601a21a272f86285a4adc314151ed8d2023ba4d9d7f4dd", checked := Yba.checked }
namespace Rows
def none {H : Type} : Left H := { results := [], args := [] }

/-- 'store.LawS4682CPlaces': WHATEVER THE INPUT: true; the input reads as it did. -/
def lawS4682CPlacesSpec : ChangeSpec := { name := "lawS4682CPlaces", fn := fun _ => fun
  | [d1, d2] => { results := [.lit (.bool true)], args := [d1, d2] }
  | _ => none }
def lawS4682CPlacesRow : OpenClaim := { program := "ybulkcryc", sum := "68b59750a99ec31eb5601a21a272f86285a4adc314151ed8d2023ba4d9d7f4dd", func := "example.com/cascadence/cascadence/internal/store.LawS4682CPlaces", spec := "lawS4682CPlaces", unfollowed := true, recurses := true, plainKeys := false, apart := false }
def LawS4682CPlacesSaid : Prop := lawS4682CPlacesRow.holds Yba.pinned (OpenSpec.ofChange lawS4682CPlacesSpec)

/-- ITS FALSE NEIGHBOUR: 'it returns false'. Refute it at one input. -/
def lawS4682CPlacesWrong : ChangeSpec := { name := "lawS4682CPlaces", fn := fun _ => fun
  | [d1, d2] => { results := [.lit (.bool false)], args := [d1, d2] }
  | _ => none }
def LawS4682CPlacesWrongFalsely : Prop := lawS4682CPlacesRow.holds Yba.pinned (OpenSpec.ofChange lawS4682CPlacesWrong)

/-- 'store.LawS4682CStop': WHATEVER THE INPUT: true; the input reads as it did. -/
def lawS4682CStopSpec : ChangeSpec := { name := "lawS4682CStop", fn := fun _ => fun
  | [d1, d2, d3] => { results := [.lit (.bool true)], args := [d1, d2, d3] }
  | _ => none }
def lawS4682CStopRow : OpenClaim := { program := "ybulkcryc", sum := "68b59750a99ec31eb5601a21a272f86285a4adc314151ed8d2023ba4d9d7f4dd", func := "example.com/cascadence/cascadence/internal/store.LawS4682CStop", spec := "lawS4682CStop", unfollowed := true, recurses := true, plainKeys := false, apart := false }
def LawS4682CStopSaid : Prop := lawS4682CStopRow.holds Yba.pinned (OpenSpec.ofChange lawS4682CStopSpec)

/-- ITS FALSE NEIGHBOUR: 'it returns false'. Refute it at one input. -/
def lawS4682CStopWrong : ChangeSpec := { name := "lawS4682CStop", fn := fun _ => fun
  | [d1, d2, d3] => { results := [.lit (.bool false)], args := [d1, d2, d3] }
  | _ => none }
def LawS4682CStopWrongFalsely : Prop := lawS4682CStopRow.holds Yba.pinned (OpenSpec.ofChange lawS4682CStopWrong)

end Rows
end Go.Proofs.Ybulkcryc
