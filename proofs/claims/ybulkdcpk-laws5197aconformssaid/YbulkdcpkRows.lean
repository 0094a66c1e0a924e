/-
  No cell of these rows narrows 'for every input' (looked for: loops, veiled, ifaces, maps, wideKeys, modest, calm, conditions, laid).
  DERIVED. THE GIVEN ROWS OF THIS SEAT. 2 by the template 'for every input the law returns true; each argument reads behind the call as it read before'; 0 by the template 'total and deterministic' (their statements: YbulkdcpkTotals.lean).
  GIVEN WITH THE SEED: the statements are not yours to turn. If you find one false, say at which input.
  Laid BY PROGRAM, IN A SANDBOX (cutbox-rows.mjs): the forced cells as the released guide's own fill.sh prints them over the translation 57ac70154bfb8af9… (all of the seat's roots in one cut). By AI agents, Wed Nov 11 2026. No macro, syntax, notation, axiom, sorry.
-/
import Derived.Test.YbulkdcpkChecked
import GoSem.Claim
import GoSem.ClaimJoined
import GoSem.ClaimMapViews
import Derived.JoinedTies
import Derived.KernelRfl
namespace Go.Proofs.Ybulkdcpk
/- THE CELL 'sum', in the pinned program and in every row, IS THE sha256 OF THE DUMP (.gsa) THAT YbulkdcpkProg.lean LOADS. Nothing in Lean hashes anything: it is a label: what it is worth is what the hold of that sum in a sandbox is worth. -/
noncomputable def Yba.pinned : Pinned := { name := "ybulkdcpk", sum := "57ac70154bfb8af94da25062caad484acda3108cc724410ed9e5e9f770abf5c1", checked := Yba.checked }
namespace Rows
def none {H : Type} : Left H := { results := [], args := [] }

/-- 'wirecall.LawS5197AType': WHATEVER THE INPUT: true; the input reads as it did. -/
def lawS5197ATypeSpec : ChangeSpec := { name := "lawS5197AType", fn := fun _ => fun
  | [d1, d2, d3, d4] => { results := [.lit (.bool true)], args := [d1, d2, d3, d4] }
  | _ => none }
def lawS5197ATypeRow : OpenClaim := { program := "ybulkdcpk", sum := "57ac70154bfb8af94da25062caad484acda3108cc724410ed9e5e9f770abf5c1", func := "example.com/wirecall/wirecall.LawS5197AType", spec := "lawS5197AType", apart := false }
def LawS5197ATypeSaid : Prop := lawS5197ATypeRow.holds Yba.pinned (OpenSpec.ofChange lawS5197ATypeSpec)

/-- ITS FALSE NEIGHBOUR: 'it returns false'. Refute it at one input. -/
def lawS5197ATypeWrong : ChangeSpec := { name := "lawS5197AType", fn := fun _ => fun
  | [d1, d2, d3, d4] => { results := [.lit (.bool false)], args := [d1, d2, d3, d4] }
  | _ => none }
def LawS5197ATypeWrongFalsely : Prop := lawS5197ATypeRow.holds Yba.pinned (OpenSpec.ofChange lawS5197ATypeWrong)

/-- 'wirecall.LawS5197AConforms': WHATEVER THE INPUT: true; the input reads as it did. -/
def lawS5197AConformsSpec : ChangeSpec := { name := "lawS5197AConforms", fn := fun _ => fun
  | [d1, d2, d3, d4, d5, d6] => { results := [.lit (.bool true)], args := [d1, d2, d3, d4, d5, d6] }
  | _ => none }
def lawS5197AConformsRow : OpenClaim := { program := "ybulkdcpk", sum := "57ac70154bfb8af94da25062caad484acda3108cc724410ed9e5e9f770abf5c1", func := "example.com/wirecall/wirecall.LawS5197AConforms", spec := "lawS5197AConforms", apart := false }
def LawS5197AConformsSaid : Prop := lawS5197AConformsRow.holds Yba.pinned (OpenSpec.ofChange lawS5197AConformsSpec)

/-- ITS FALSE NEIGHBOUR: 'it returns false'. Refute it at one input. -/
def lawS5197AConformsWrong : ChangeSpec := { name := "lawS5197AConforms", fn := fun _ => fun
  | [d1, d2, d3, d4, d5, d6] => { results := [.lit (.bool false)], args := [d1, d2, d3, d4, d5, d6] }
  | _ => none }
def LawS5197AConformsWrongFalsely : Prop := lawS5197AConformsRow.holds Yba.pinned (OpenSpec.ofChange lawS5197AConformsWrong)

end Rows
end Go.Proofs.Ybulkdcpk
