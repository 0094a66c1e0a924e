/-
  DERIVED: THE SHELF's CONTRACTS AT THIS DUMP, IN PLAIN WORDS (tools/lay-plain.mjs out of 'YbulkdcraFmtShelf.lean', which tools/lay-shelf.mjs wrote): THE SAME DECLARATIONS UNDER THE SAME NAMES: 'import', 'namespace', 'open', 'def', 'theorem' AND NOTHING ELSE: no command of the shelf's: FOR A HAND-IN. Each laying: the table of numbers ('.._ren') and one theorem, a field a fact of the dump's own or the kernel's comparison; each contract: ONE APPLICATION.
-/
import Derived.Shelf.Strings.Builder1
import Derived.Shelf.Strings.Builder2
import Derived.Shelf.Strings.OnBuilder
import Derived.Shelf.SlicesQ.IndexFunc
import Derived.Test.YbulkdcraFmtProg
namespace Go.Proofs
open Go.Shelf
def Ybaf.lays156_ren : Go.Shelf.Ren := ⟨fun | 156 => 40 | 165 => 45 | 166 => 46 | 169 => 47 | 240 => 50 | 241 => 51 | 276 => 52 | 277 => 53 | n => n, fun | 31 => 56 | 9 => 9 | 3 => 3 | 4 => 4 | 0 => 0 | 20 => 20 | 72 => 81 | 76 => 83 | 70 => 79 | 37 => 22 | 75 => 31 | 127 => 87 | 164 => 88 | 5 => 5 | 80 => 78 | n => n, fun | n => n⟩
theorem Ybaf.lays156 : Go.Proofs.Lays.n156 Ybaf.prog Ybaf.lays156_ren := {
  mixed := by kernel_rfl
  f156 := Ybaf.func40.trans (congrArg some (by kernel_rfl))
  f165 := Ybaf.func45.trans (congrArg some (by kernel_rfl))
  f166 := Ybaf.func46.trans (congrArg some (by kernel_rfl))
  f169 := Ybaf.func47.trans (congrArg some (by kernel_rfl))
  f240 := Ybaf.func50.trans (congrArg some (by kernel_rfl))
  f241 := Ybaf.func51.trans (congrArg some (by kernel_rfl))
  f276 := Ybaf.func52.trans (congrArg some (by kernel_rfl))
  f277 := Ybaf.func53.trans (congrArg some (by kernel_rfl))
  t0 := Ybaf.underlying0
  a0 := Ybaf.isAgg0
  z0 := Ybaf.sizeOf0
  v0 := Ybaf.zeroValue0
  t3 := Ybaf.underlying3
  a3 := Ybaf.isAgg3
  z3 := Ybaf.sizeOf3
  v3 := Ybaf.zeroValue3
  t4 := Ybaf.underlying4
  a4 := Ybaf.isAgg4
  z4 := Ybaf.sizeOf4
  v4 := Ybaf.zeroValue4
  t9 := Ybaf.underlying9
  a9 := Ybaf.isAgg9
  z9 := Ybaf.sizeOf9
  v9 := Ybaf.zeroValue9
  t20 := Ybaf.underlying20
  a20 := Ybaf.isAgg20
  z20 := Ybaf.sizeOf20
  v20 := Ybaf.zeroValue20
  t31 := Ybaf.underlying56
  a31 := Ybaf.isAgg56
  z31 := Ybaf.sizeOf56
  v31 := Ybaf.zeroValue56
  t37 := Ybaf.underlying22
  a37 := Ybaf.isAgg22
  z37 := Ybaf.sizeOf22
  v37 := Ybaf.zeroValue22
  t70 := Ybaf.underlying79
  a70 := Ybaf.isAgg79
  z70 := Ybaf.sizeOf79
  v70 := Ybaf.zeroValue79
  t72 := Ybaf.underlying81
  a72 := Ybaf.isAgg81
  z72 := Ybaf.sizeOf81
  v72 := Ybaf.zeroValue81
  t75 := Ybaf.underlying31
  a75 := Ybaf.isAgg31
  z75 := Ybaf.sizeOf31
  v75 := Ybaf.zeroValue31
  t76 := Ybaf.underlying83
  a76 := Ybaf.isAgg83
  z76 := Ybaf.sizeOf83
  v76 := Ybaf.zeroValue83
  t127 := Ybaf.underlying87
  a127 := Ybaf.isAgg87
  z127 := Ybaf.sizeOf87
  v127 := Ybaf.zeroValue87
  t164 := Ybaf.underlying88
  a164 := Ybaf.isAgg88
  z164 := Ybaf.sizeOf88
  v164 := Ybaf.zeroValue88 }
theorem Ybaf.Builder_Extra_156 : Builder.Extra Ybaf.prog Ybaf.lays156_ren := {
  sizeBuilder := by kernel_rfl
  liesBuilder := by kernel_rfl
  t5 := Ybaf.underlying5
  a5 := Ybaf.isAgg5
  z5 := Ybaf.sizeOf5
  v5 := Ybaf.zeroValue5
  infoByte := by kernel_rfl
  cellsByte := by kernel_rfl
  sizeByte := by kernel_rfl
  neB5 := by decide }
open Go.RowKit in
theorem Ybaf.strings_Join_none (a : Option Addr) (c : Nat) (sep : ByteArray) (w : World) :
    Calls Ybaf.prog 40 #[.slice a 0 c, .string sep] w fun e w' => e = .returned (.string ⟨#[]⟩) ∧ w' = w := Any.strings_Join_none Ybaf.lays156 Ybaf.Builder_Extra_156 a c sep w
open Go.RowKit in
theorem Ybaf.strings_Join (bk o c : Nat) (xs : List ByteArray) (sep : ByteArray) (w : World) (hcells : ∀ (j : Nat) x, xs[j]? = some x → w.cell? ⟨bk, o + j, none⟩ = some (.string x)) (hbk : bk < w.heap.size) (hN : xs.length ≤ 140737488355328) (hcap : xs.length ≤ c) (hlen : (Lib.join (xs.map (·.data.toList)) sep.data.toList).length ≤ 140737488355328) :
    Calls Ybaf.prog 40 #[.slice (some ⟨bk, o, none⟩) xs.length c, .string sep] w fun e w' => e = .returned (.string ⟨(Lib.join (xs.map (·.data.toList)) sep.data.toList).toArray⟩) ∧ Below w.heap.size w w' := Any.strings_Join Ybaf.lays156 Ybaf.Builder_Extra_156 bk o c xs sep w hcells hbk hN hcap hlen
def Ybaf.l38_ren : Go.Shelf.Ren := ⟨fun | 6 => 38 | n => n, fun | 22 => 57 | 23 => 53 | 25 => 72 | 3 => 3 | 0 => 0 | 4 => 4 | n => n, fun | n => n⟩
theorem Ybaf.l38 : Go.Proofs.SlLaysH0.n6 Ybaf.prog Ybaf.l38_ren := {
  mixed := by kernel_rfl
  f6 := ⟨Ybaf.f38.name, by decide, Ybaf.func38.trans (congrArg some (by kernel_rfl))⟩
  t0 := Ybaf.underlying0
  a0 := Ybaf.isAgg0
  z0 := Ybaf.sizeOf0
  v0 := Ybaf.zeroValue0
  t3 := Ybaf.underlying3
  a3 := Ybaf.isAgg3
  z3 := Ybaf.sizeOf3
  v3 := Ybaf.zeroValue3
  t4 := Ybaf.underlying4
  a4 := Ybaf.isAgg4
  z4 := Ybaf.sizeOf4
  v4 := Ybaf.zeroValue4
  t22 := Ybaf.underlying57
  a22 := Ybaf.isAgg57
  z22 := Ybaf.sizeOf57
  v22 := Ybaf.zeroValue57
  t25 := Ybaf.underlying72
  a25 := Ybaf.isAgg72
  z25 := Ybaf.sizeOf72
  v25 := Ybaf.zeroValue72 }
end Go.Proofs
