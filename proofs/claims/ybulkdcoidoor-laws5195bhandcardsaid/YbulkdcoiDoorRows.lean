/-
  NARROWER THAN 'FOR EVERY INPUT', by the rows' own cells (each row's printed sentence says how): LawS5195BHand: ifaces, laid.
  DERIVED. THE GIVEN ROWS OF THIS SEAT. 1 by the template 'for every input the law returns true; each argument reads behind the call as it read before'; 0 by the template 'total and deterministic' (their statements: YbulkdcoiDoorTotals.lean).
  GIVEN WITH THE SEED: the statements are not yours to turn. If you find one false, say at which input.
  Laid BY PROGRAM, IN A SANDBOX (cutbox-rows.mjs): the forced cells as the released guide's own fill.sh prints them over the translation 2d8afa327e9d1ea3… (all of the seat's roots in one cut). By AI agents, Wed Nov 11 2026. No macro, syntax, notation, axiom, sorry.
-/
import Derived.Test.YbulkdcoiDoorChecked
import GoSem.Claim
import GoSem.ClaimJoined
import GoSem.ClaimMapViews
import Derived.JoinedTies
import Derived.KernelRfl
namespace Go.Proofs.YbulkdcoiDoor
/- THE CELL 'sum', in the pinned program and in every row, IS THE sha256 OF THE DUMP (.gsa) THAT YbulkdcoiDoorProg.lean LOADS. Nothing in Lean hashes anything: it is a label: what it is worth is what the hold of that sum in a sandbox is worth. -/
noncomputable def Ybad.pinned : Pinned := { name := "ybulkdcoidoor", sum := "2d8afa327e9d1ea39de1a06f3002b35697d70a084f11c22222fa333e2cb5d9a9", checked := Ybad.checked }
namespace Rows
def none {H : Type} : Left H := { results := [], args := [] }

/- WHAT THE LISTED PACKAGE-LEVEL VARIABLES READ AS WHEN THE CALL BEGINS. Each datum BY PROGRAM (the guide's laid-datum.mjs) off the statement by which the dump's own 'gosem.cut.vars' lays the variable. In a bare row this is a premise. The card (YbulkdcoiDoorCards.lean) ties it to the program's text. -/
def laid_example_com_pappus_pappus_internal_node_errGaveWay {H : Type} : DataW H := .iface "*errors.errorString" (.ptr (.agg [.lit (.string [103, 97, 118, 101, 32, 119, 97, 121, 32, 116, 111, 32, 97, 110, 111, 116, 104, 101, 114, 32, 99, 111, 110, 110, 101, 99, 116, 105, 111, 110, 39, 115, 32, 102, 114, 97, 109, 101])]))

/-- 'node.LawS5195BHand': WHATEVER THE INPUT: true; the input reads as it did. -/
def lawS5195BHandSpec : ChangeSpec := { name := "lawS5195BHand", vars := ["example.com/pappus/pappus/internal/node.errGaveWay"], fn := fun _ => fun
  | [d1, d2, d3, d4, d5, g1] => { results := [.lit (.bool true)], args := [d1, d2, d3, d4, d5], vars := [g1] }
  | _ => none }
def lawS5195BHandRow : OpenClaim := { program := "ybulkdcoidoor", sum := "2d8afa327e9d1ea39de1a06f3002b35697d70a084f11c22222fa333e2cb5d9a9", func := "example.com/pappus/pappus/internal/node.LawS5195BHand", spec := "lawS5195BHand", inPlace := ["sync.NewCond", "(*internal/sync.Mutex).Lock", "internal/race.Disable", "sync/atomic.CompareAndSwapInt32", "internal/race.Enable", "internal/race.Acquire", "(*internal/sync.Mutex).lockSlow", "internal/sync.runtime_canSpin", "internal/sync.runtime_doSpin", "internal/sync.throw", "internal/sync.runtime_nanotime", "internal/sync.runtime_SemacquireMutex", "sync/atomic.AddInt32", "(*internal/sync.Mutex).Unlock", "internal/race.ReleaseMerge", "(*internal/sync.Mutex).unlockSlow", "internal/sync.fatal", "internal/sync.runtime_Semrelease", "(*internal/sync.Mutex).TryLock"], unfollowed := true, recurses := true, named := ["example.com/pappus/pappus/internal/node.errGaveWay"], ifaces := true, apart := false, laid := [("example.com/pappus/pappus/internal/node.errGaveWay", laid_example_com_pappus_pappus_internal_node_errGaveWay)] }
def LawS5195BHandSaid : Prop := lawS5195BHandRow.holds Ybad.pinned (OpenSpec.ofChange lawS5195BHandSpec)

/-- ITS FALSE NEIGHBOUR: 'it returns false'. Refute it at one input. -/
def lawS5195BHandWrong : ChangeSpec := { name := "lawS5195BHand", vars := ["example.com/pappus/pappus/internal/node.errGaveWay"], fn := fun _ => fun
  | [d1, d2, d3, d4, d5, g1] => { results := [.lit (.bool false)], args := [d1, d2, d3, d4, d5], vars := [g1] }
  | _ => none }
def LawS5195BHandWrongFalsely : Prop := lawS5195BHandRow.holds Ybad.pinned (OpenSpec.ofChange lawS5195BHandWrong)

end Rows
end Go.Proofs.YbulkdcoiDoor
