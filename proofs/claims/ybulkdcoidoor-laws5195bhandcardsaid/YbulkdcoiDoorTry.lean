/-
  '(*sync.Mutex).TryLock', THE LOCK FREE: it is taken. (Lock and Unlock: the library's own contracts at this dump.)
-/
import Derived.Test.YbulkdcoiDoorRows
import Derived.Test.YbulkdcoiDoorLocks
import Derived.Conc.MuLone
import Derived.WalkKit
import Derived.WalkSpells
import Derived.WalkLawsBesides
namespace Go.Proofs.YbulkdcoiDoor
open Go.RowKit Go.MuLone

/-- A pointer to the lock, handed to the race detector's mark: the same address. -/
theorem conv_key (a : Addr) (w : World) : (convert 92 83 (.pointer (some a))).run Ybad.prog w = (do
    let s ← Conv.seenAt a
    let nothing := match ← cellsIn s.block with
      | some cells => s.off ≥ cells && s.spot.isNone
      | none => false
    if (← sizeOf 50) = 0 || nothing then pure (.pointer (some ⟨← newObj (.view s 50), 0, none⟩)) else
    pure (.pointer (some s)) : Sem Value).run Ybad.prog w := by kernel_rfl

theorem conv_ptr {a : Addr} {v : Value} {w : World} (hc : w.cell? a = some v) : (convert 92 83 (.pointer (some a))).run Ybad.prog w = .ok (.pointer (some a)) w := by
  obtain ⟨e, n, hsh, hlt, hsp⟩ := World.shape?_of_cell? hc
  have hge : ¬ (n ≤ a.off) := by omega
  have hsz : ∀ w : World, (sizeOf 50).run Ybad.prog w = .ok 2 w := Ybad.sizeOf50
  rw [conv_key]
  simp [Conv.seenAt, viewAt, cellsIn, hsh, hge, hsz, Result.andThen]

set_option maxRecDepth 100000 in
set_option maxHeartbeats 800000 in
theorem itry_free (a : Addr) (w : World) (hc : w.cell? a = some (.int .i32 0)) (hz : w.frozen? a = false) :
    Calls Ybad.prog 11 #[.pointer (some a)] w fun e w' => e = .returned (.bool true) ∧ w' = w.setCell a (.int .i32 1) := by
  have hd : ∀ w : World, (callFunc 16 #[]).run Ybad.prog w = .ok (.value (.tuple #[])) w := disable Ybad.muLib
  have he : ∀ w : World, (callFunc 17 #[]).run Ybad.prog w = .ok (.value (.tuple #[])) w := enable Ybad.muLib
  have ha : ∀ (a : Addr) (w : World), (callFunc 19 #[.pointer (some a)]).run Ybad.prog w = .ok (.value (.tuple #[])) w := acquire Ybad.muLib
  have hcas := run_call_cas_hit (P := Ybad.prog) Ybad.func18 (by kernel_rfl) (by kernel_rfl) (by kernel_rfl) .i32 (by kernel_rfl) (y := 1) hc hz
  have hc' : (w.setCell a (.int .i32 1)).cell? a = some (.int .i32 1) := by simp [go_sem, hc]
  have hcv := conv_ptr hc'
  have hb1 : bits .and .i32 0 5 = 0 := by decide
  have hb2 : bits .or .i32 0 1 = 1 := by decide
  go_enter Ybad.func11, Ybad.ntmps11
  go_wp2
  go_ret
  exact ⟨rfl, rfl⟩

theorem try_free (a : Addr) (w : World) (hc : w.cell? a = some (.int .i32 0)) (hz : w.frozen? a = false) :
    Calls Ybad.prog 6 #[.pointer (some a)] w fun e w' => e = .returned (.bool true) ∧ w' = w.setCell a (.int .i32 1) := by
  go_enter Ybad.func6, Ybad.ntmps6
  go_wp2_with (go_at_call 11; refine (itry_free a w hc hz).mono ?_; rintro e w' ⟨rfl, rfl⟩)
  go_ret
  exact ⟨rfl, rfl⟩
end Go.Proofs.YbulkdcoiDoor
