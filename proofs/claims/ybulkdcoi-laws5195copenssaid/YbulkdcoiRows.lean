/-
  No cell of these rows narrows 'for every input' (looked for: loops, veiled, ifaces, maps, wideKeys, modest, calm, conditions, laid).
  DERIVED. THE GIVEN ROWS OF THIS SEAT. 3 by the template 'for every input the law returns true; each argument reads behind the call as it read before'; 0 by the template 'total and deterministic' (their statements: YbulkdcoiTotals.lean).
  GIVEN WITH THE SEED: the statements are not yours to turn. If you find one false, say at which input.
  Laid BY PROGRAM, IN A SANDBOX (cutbox-rows.mjs): the forced cells as the released guide's own fill.sh prints them over the translation 36292b7da798e4fa… (all of the seat's roots in one cut). By AI agents, Wed Nov 11 2026. No macro, syntax, notation, axiom, sorry.
-/
import Derived.Test.YbulkdcoiChecked
import GoSem.Claim
import GoSem.ClaimJoined
import GoSem.ClaimMapViews
import Derived.JoinedTies
import Derived.KernelRfl
namespace Go.Proofs.Ybulkdcoi
/- THE CELL 'sum', in the pinned program and in every row, IS THE sha256 OF THE DUMP (.gsa) THAT YbulkdcoiProg.lean LOADS. Nothing in Lean hashes anything: it is a label: what it is worth is what the hold of that sum in a sandbox is worth. -/
noncomputable def Yba.pinned : Pinned := { name := "ybulkdcoi", sum := "36292b7da798e4fae5a33f4190012b6d106b81ded20fb067ede5967a3c82160c", checked := Yba.checked }
namespace Rows
def none {H : Type} : Left H := { results := [], args := [] }

/-- 'pappus.LawS5195AKeeps': WHATEVER THE INPUT: true; the input reads as it did. -/
def lawS5195AKeepsSpec : ChangeSpec := { name := "lawS5195AKeeps", fn := fun _ => fun
  | [d1, d2, d3, d4] => { results := [.lit (.bool true)], args := [d1, d2, d3, d4] }
  | _ => none }
def lawS5195AKeepsRow : OpenClaim := { program := "ybulkdcoi", sum := "36292b7da798e4fae5a33f4190012b6d106b81ded20fb067ede5967a3c82160c", func := "example.com/pappus/pappus.LawS5195AKeeps", spec := "lawS5195AKeeps", unfollowed := true, recurses := true, apart := false }
def LawS5195AKeepsSaid : Prop := lawS5195AKeepsRow.holds Yba.pinned (OpenSpec.ofChange lawS5195AKeepsSpec)

/-- ITS FALSE NEIGHBOUR: 'it returns false'. Refute it at one input. -/
def lawS5195AKeepsWrong : ChangeSpec := { name := "lawS5195AKeeps", fn := fun _ => fun
  | [d1, d2, d3, d4] => { results := [.lit (.bool false)], args := [d1, d2, d3, d4] }
  | _ => none }
def LawS5195AKeepsWrongFalsely : Prop := lawS5195AKeepsRow.holds Yba.pinned (OpenSpec.ofChange lawS5195AKeepsWrong)

/-- 'pappus.LawS5195ARoom': WHATEVER THE INPUT: true; the input reads as it did. -/
def lawS5195ARoomSpec : ChangeSpec := { name := "lawS5195ARoom", fn := fun _ => fun
  | [d1, d2, d3, d4] => { results := [.lit (.bool true)], args := [d1, d2, d3, d4] }
  | _ => none }
def lawS5195ARoomRow : OpenClaim := { program := "ybulkdcoi", sum := "36292b7da798e4fae5a33f4190012b6d106b81ded20fb067ede5967a3c82160c", func := "example.com/pappus/pappus.LawS5195ARoom", spec := "lawS5195ARoom", unfollowed := true, recurses := true, apart := false }
def LawS5195ARoomSaid : Prop := lawS5195ARoomRow.holds Yba.pinned (OpenSpec.ofChange lawS5195ARoomSpec)

/-- ITS FALSE NEIGHBOUR: 'it returns false'. Refute it at one input. -/
def lawS5195ARoomWrong : ChangeSpec := { name := "lawS5195ARoom", fn := fun _ => fun
  | [d1, d2, d3, d4] => { results := [.lit (.bool false)], args := [d1, d2, d3, d4] }
  | _ => none }
def LawS5195ARoomWrongFalsely : Prop := lawS5195ARoomRow.holds Yba.pinned (OpenSpec.ofChange lawS5195ARoomWrong)

/-- 'node.LawS5195COpens': WHATEVER THE INPUT: true; the input reads as it did. -/
def lawS5195COpensSpec : ChangeSpec := { name := "lawS5195COpens", fn := fun _ => fun
  | [d1, d2] => { results := [.lit (.bool true)], args := [d1, d2] }
  | _ => none }
def lawS5195COpensRow : OpenClaim := { program := "ybulkdcoi", sum := "36292b7da798e4fae5a33f4190012b6d106b81ded20fb067ede5967a3c82160c", func := "example.com/pappus/pappus/internal/node.LawS5195COpens", spec := "lawS5195COpens", unfollowed := true, recurses := true, apart := false }
def LawS5195COpensSaid : Prop := lawS5195COpensRow.holds Yba.pinned (OpenSpec.ofChange lawS5195COpensSpec)

/-- ITS FALSE NEIGHBOUR: 'it returns false'. Refute it at one input. -/
def lawS5195COpensWrong : ChangeSpec := { name := "lawS5195COpens", fn := fun _ => fun
  | [d1, d2] => { results := [.lit (.bool false)], args := [d1, d2] }
  | _ => none }
def LawS5195COpensWrongFalsely : Prop := lawS5195COpensRow.holds Yba.pinned (OpenSpec.ofChange lawS5195COpensWrong)

end Rows
end Go.Proofs.Ybulkdcoi
