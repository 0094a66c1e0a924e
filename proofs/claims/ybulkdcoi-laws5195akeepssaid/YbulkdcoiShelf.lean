/-
  DERIVED: THE SHELF's CONTRACTS AT THIS DUMP, IN PLAIN WORDS (tools/lay-plain.mjs out of 'YbulkdcoiShelf.lean', which tools/lay-shelf.mjs wrote): THE SAME DECLARATIONS UNDER THE SAME NAMES: 'import', 'namespace', 'open', 'def', 'theorem' AND NOTHING ELSE: no command of the shelf's: FOR A HAND-IN. Each laying: the table of numbers ('.._ren') and one theorem, a field a fact of the dump's own or the kernel's comparison; each contract: ONE APPLICATION.
-/
import Derived.Shelf.SlicesE.DeleteFunc
import Derived.Shelf.SlicesE.Compact
import Derived.Shelf.SlGeneric
import Derived.Test.YbulkdcoiProg
namespace Go.Proofs
open Go.Shelf
def Yba.del_ren : Go.Shelf.Ren := ⟨fun | 10 => 16 | 6 => 25 | n => n, fun | 22 => 25 | 23 => 21 | 25 => 135 | 3 => 3 | 4 => 4 | 0 => 0 | n => n, fun | n => n⟩
theorem Yba.del : Go.Proofs.SlLaysH.n10 Yba.prog Yba.del_ren := {
  mixed := by kernel_rfl
  f6 := ⟨Yba.f25.name, by decide, Yba.func25.trans (congrArg some (by kernel_rfl))⟩
  f10 := ⟨Yba.f16.name, by decide, Yba.func16.trans (congrArg some (by kernel_rfl))⟩
  t0 := Yba.underlying0
  a0 := Yba.isAgg0
  z0 := Yba.sizeOf0
  v0 := Yba.zeroValue0
  t3 := Yba.underlying3
  a3 := Yba.isAgg3
  z3 := Yba.sizeOf3
  v3 := Yba.zeroValue3
  t4 := Yba.underlying4
  a4 := Yba.isAgg4
  z4 := Yba.sizeOf4
  v4 := Yba.zeroValue4
  t22 := Yba.underlying25
  a22 := Yba.isAgg25
  z22 := Yba.sizeOf25
  v22 := Yba.zeroValue25
  a23 := Yba.isAgg21
  z23 := Yba.sizeOf21
  t25 := Yba.underlying135
  a25 := Yba.isAgg135
  z25 := Yba.sizeOf135
  v25 := Yba.zeroValue135 }
def Yba.idx_ren : Go.Shelf.Ren := ⟨fun | 6 => 25 | n => n, fun | 22 => 25 | 23 => 21 | 25 => 135 | 3 => 3 | 0 => 0 | 4 => 4 | n => n, fun | n => n⟩
theorem Yba.idx : Go.Proofs.SlLaysH.n6 Yba.prog Yba.idx_ren := {
  mixed := by kernel_rfl
  f6 := ⟨Yba.f25.name, by decide, Yba.func25.trans (congrArg some (by kernel_rfl))⟩
  t0 := Yba.underlying0
  a0 := Yba.isAgg0
  z0 := Yba.sizeOf0
  v0 := Yba.zeroValue0
  t3 := Yba.underlying3
  a3 := Yba.isAgg3
  z3 := Yba.sizeOf3
  v3 := Yba.zeroValue3
  t4 := Yba.underlying4
  a4 := Yba.isAgg4
  z4 := Yba.sizeOf4
  v4 := Yba.zeroValue4
  t22 := Yba.underlying25
  a22 := Yba.isAgg25
  z22 := Yba.sizeOf25
  v22 := Yba.zeroValue25
  a23 := Yba.isAgg21
  z23 := Yba.sizeOf21
  t25 := Yba.underlying135
  a25 := Yba.isAgg135
  z25 := Yba.sizeOf135
  v25 := Yba.zeroValue135 }
def Yba.cpt_ren : Go.Shelf.Ren := ⟨fun | 43 => 19 | n => n, fun | 22 => 25 | 23 => 21 | 3 => 3 | 4 => 4 | 0 => 0 | n => n, fun | n => n⟩
theorem Yba.cpt : Go.Proofs.SlLaysE.n43 Yba.prog Yba.cpt_ren := {
  mixed := by kernel_rfl
  f43 := ⟨Yba.f19.name, by decide, Yba.func19.trans (congrArg some (by kernel_rfl))⟩
  t0 := Yba.underlying0
  a0 := Yba.isAgg0
  z0 := Yba.sizeOf0
  v0 := Yba.zeroValue0
  t3 := Yba.underlying3
  a3 := Yba.isAgg3
  z3 := Yba.sizeOf3
  v3 := Yba.zeroValue3
  t4 := Yba.underlying4
  a4 := Yba.isAgg4
  z4 := Yba.sizeOf4
  v4 := Yba.zeroValue4
  t22 := Yba.underlying25
  a22 := Yba.isAgg25
  z22 := Yba.sizeOf25
  v22 := Yba.zeroValue25
  a23 := Yba.isAgg21
  z23 := Yba.sizeOf21 }
end Go.Proofs
