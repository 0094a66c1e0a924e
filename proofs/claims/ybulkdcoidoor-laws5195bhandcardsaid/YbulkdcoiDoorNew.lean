/-
  THE WALK OF 'newReading'.
-/
import Derived.Test.YbulkdcoiDoorHand
namespace Go.Proofs.YbulkdcoiDoor
open Go.RowKit Go.MuLone

set_option maxRecDepth 100000 in
set_option maxHeartbeats 1600000 in
theorem new_any (w : World) :
    Calls Ybad.prog 4 #[] w fun e w' => e = .returned (.pointer (some ⟨w.heap.size, 0, none⟩)) ∧
      w' = (w.alloc (.cells #[.int .i32 0, .int .u32 0, .int .i64 0, .map none, .slice none 0 0, .int .u64 0, .pointer (some ⟨w.heap.size + 1, 0, none⟩)] 70)).alloc (.cells #[.iface 78 (.pointer (some ⟨w.heap.size, 0, none⟩)), .int .u32 0, .int .u32 0, .int .u64 0, .pointer none, .pointer none, .int .u64 0] 88) := by
  go_enter Ybad.func4, Ybad.ntmps4
  go_wp2
  go_ret
  exact ⟨rfl, rfl⟩
end Go.Proofs.YbulkdcoiDoor
