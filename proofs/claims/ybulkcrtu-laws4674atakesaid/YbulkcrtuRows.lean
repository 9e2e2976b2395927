/-
  No cell of these rows narrows 'for every input' (looked for: loops, veiled, ifaces, maps, wideKeys, modest, calm, conditions, laid).
  DERIVED. THE GIVEN ROWS OF THIS SEAT. 2 by the template 'for every input the law returns true; each argument reads behind the call as it read before'; 0 by the template 'total and deterministic' (their statements: YbulkcrtuTotals.lean).
  GIVEN WITH THE SEED: the statements are not yours to turn. If you find one false, say at which input.
  Laid BY PROGRAM, IN A SANDBOX (cutbox-rows.mjs): the forced cells as the released guide's own fill.sh prints them over the translation 8c016045a9dbfbe9… (all of the seat's roots in one cut). By AI agents, Wed Nov 11 2026. No macro, syntax, notation, axiom, sorry.
-/
import Derived.Test.YbulkcrtuChecked
import GoSem.Claim
import GoSem.ClaimJoined
import GoSem.ClaimMapViews
import Derived.JoinedTies
import Derived.KernelRfl
namespace Go.Proofs.Ybulkcrtu
/- THE CELL 'sum', in the pinned program and in every row, IS THE sha256 OF THE DUMP (.gsa) THAT YbulkcrtuProg.lean LOADS. Nothing in Lean hashes anything: it is a label: what it is worth is what the hold of that sum in a sandbox is worth. -/
noncomputable def Yba.pinned : Pinned := { name := "ybulkcrtu", sum := "8c016045a9dbfbe9a070943ad870fb21165c60fa169bbe0847645571fd94a7a3", checked := Yba.checked }
namespace Rows
def none {H : Type} : Left H := { results := [], args := [] }

/-- 'leafwire.LawS4674ATake': WHATEVER THE INPUT: true; the input reads as it did. -/
def lawS4674ATakeSpec : ChangeSpec := { name := "lawS4674ATake", fn := fun _ => fun
  | [d1, d2, d3, d4, d5, d6, d7, d8, d9, d10] => { results := [.lit (.bool true)], args := [d1, d2, d3, d4, d5, d6, d7, d8, d9, d10] }
  | _ => none }
def lawS4674ATakeRow : OpenClaim := { program := "ybulkcrtu", sum := "8c016045a9dbfbe9a070943ad870fb21165c60fa169bbe0847645571fd94a7a3", func := "example.com/leafwire/leafwire.LawS4674ATake", spec := "lawS4674ATake", inPlace := ["math/bits.Sub64", "internal/bytealg.Compare"], unfollowed := true, recurses := true, named := ["encoding/binary.BigEndian"], plainKeys := false, apart := false }
def LawS4674ATakeSaid : Prop := lawS4674ATakeRow.holds Yba.pinned (OpenSpec.ofChange lawS4674ATakeSpec)

/-- ITS FALSE NEIGHBOUR: 'it returns false'. Refute it at one input. -/
def lawS4674ATakeWrong : ChangeSpec := { name := "lawS4674ATake", fn := fun _ => fun
  | [d1, d2, d3, d4, d5, d6, d7, d8, d9, d10] => { results := [.lit (.bool false)], args := [d1, d2, d3, d4, d5, d6, d7, d8, d9, d10] }
  | _ => none }
def LawS4674ATakeWrongFalsely : Prop := lawS4674ATakeRow.holds Yba.pinned (OpenSpec.ofChange lawS4674ATakeWrong)

/-- 'transport.LawS4674BForget': WHATEVER THE INPUT: true; the input reads as it did. -/
def lawS4674BForgetSpec : ChangeSpec := { name := "lawS4674BForget", fn := fun _ => fun
  | [d1, d2, d3, d4, d5, d6, d7] => { results := [.lit (.bool true)], args := [d1, d2, d3, d4, d5, d6, d7] }
  | _ => none }
def lawS4674BForgetRow : OpenClaim := { program := "ybulkcrtu", sum := "8c016045a9dbfbe9a070943ad870fb21165c60fa169bbe0847645571fd94a7a3", func := "example.com/leafwire/leafwire/internal/transport.LawS4674BForget", spec := "lawS4674BForget", inPlace := ["(*internal/sync.Mutex).Lock", "internal/race.Disable", "sync/atomic.CompareAndSwapInt32", "internal/race.Enable", "internal/race.Acquire", "(*internal/sync.Mutex).lockSlow", "internal/sync.runtime_canSpin", "internal/sync.runtime_doSpin", "internal/sync.throw", "internal/sync.runtime_nanotime", "internal/sync.runtime_SemacquireMutex", "sync/atomic.AddInt32", "(*internal/sync.Mutex).Unlock", "internal/race.ReleaseMerge", "(*internal/sync.Mutex).unlockSlow", "internal/sync.fatal", "internal/sync.runtime_Semrelease"], plainKeys := false, apart := false }
def LawS4674BForgetSaid : Prop := lawS4674BForgetRow.holds Yba.pinned (OpenSpec.ofChange lawS4674BForgetSpec)

/-- ITS FALSE NEIGHBOUR: 'it returns false'. Refute it at one input. -/
def lawS4674BForgetWrong : ChangeSpec := { name := "lawS4674BForget", fn := fun _ => fun
  | [d1, d2, d3, d4, d5, d6, d7] => { results := [.lit (.bool false)], args := [d1, d2, d3, d4, d5, d6, d7] }
  | _ => none }
def LawS4674BForgetWrongFalsely : Prop := lawS4674BForgetRow.holds Yba.pinned (OpenSpec.ofChange lawS4674BForgetWrong)

end Rows
end Go.Proofs.Ybulkcrtu
