/-
  POINTERS AND INTERFACE VALUES AGAINST THEMSELVES.
-/
import Derived.Test.YbulkdcoiL4
import Derived.LaidEql
import Derived.Lib.Builder
namespace Go.Proofs.Ybulkdcoi
open Go.RowKit
set_option linter.unusedVariables false
theorem isInfo (t : TypeId) (h : (Yba.prog.info? t).isSome = true) : ∃ j, Yba.prog.info? t = some j := Option.isSome_iff_exists.1 h
theorem neq81 (a : Addr) (w : World) : (binOp .neq 81 (.pointer (some a)) (.pointer (some a))).run Yba.prog w = .ok (.bool false) w := by
  obtain ⟨j, hj⟩ := isInfo 116 (by kernel_rfl)
  exact Lib.run_neq_ptr_same w a Yba.underlying81 hj
theorem neq86 (a : Addr) (w : World) : (binOp .neq 86 (.pointer (some a)) (.pointer (some a))).run Yba.prog w = .ok (.bool false) w := by
  obtain ⟨j, hj⟩ := isInfo 94 (by kernel_rfl)
  exact Lib.run_neq_ptr_same w a Yba.underlying86 hj
theorem info131 : (Yba.prog.info? 131).map (fun i => i.comparable) = some true := by kernel_rfl
theorem neq20 (a : Addr) (w : World) : (binOp .neq 20 (.iface 131 (.pointer (some a))) (.iface 131 (.pointer (some a)))).run Yba.prog w = .ok (.bool false) w := by
  obtain ⟨i, hi, hc⟩ := Option.map_eq_some_iff.1 info131
  obtain ⟨j, hj⟩ := isInfo 96 (by kernel_rfl)
  simp only [binOp]
  simp [Op.equal, Op.maxDepth, run_equalIn_iface_ptr_same w 9998 a Yba.underlying20 Yba.underlying131 hi hc hj]
end Go.Proofs.Ybulkdcoi
