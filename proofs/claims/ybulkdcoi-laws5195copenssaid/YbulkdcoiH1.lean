/-
  THE GROUPS' OWN READERS: oldest, first, before, at.
-/
import Derived.Test.YbulkdcoiL4
import Derived.BigQuiet
import Derived.Deep.QuietTactic
import Derived.BigCall
import Derived.BigGuard
import Derived.Deep.Draws
namespace Go.Proofs.Ybulkdcoi
open Go.RowKit
set_option linter.unusedVariables false

theorem ta131 (v : Value) (w : World) : (Instr.typeAssert (.iface 131 v) 20 131 false).run Yba.prog w = .ok v w := by kernel_rfl
theorem ta139 (v : Value) (w : World) : (Instr.typeAssert (.iface 139 v) 20 139 false).run Yba.prog w = .ok v w := by kernel_rfl

set_option maxRecDepth 100000 in
theorem oldest_walk (gb go eb cb co : Nat) (n : Int) (W : World) (hn : 0 < n) (h1 : W.cell? ⟨gb, go + 1, none⟩ = some (ptr eb 0)) (h5 : W.cell? ⟨gb, go + 1 + 4, none⟩ = some (.int .i64 n)) (h3 : W.cell? ⟨eb, 3, none⟩ = some (.iface 131 (ptr cb co))) :
    Calls Yba.prog 15 #[ptr gb go] W fun e w' => e = .returned (ptr cb co) ∧ w' = W := by
  have hf := front_walk gb (go + 1) n (ptr eb 0) W hn h1 h5
  have ht := ta131
  go_enter Yba.func15, Yba.ntmps15
  go_wp2_with (go_at_call 24; refine hf.mono ?_; rintro e w' ⟨rfl, rfl⟩)
  go_ret
  exact ⟨rfl, rfl⟩

set_option maxRecDepth 100000 in
theorem first_walk (gb go eb cb co : Nat) (n : Int) (W : World) (hn : 0 < n) (h1 : W.cell? ⟨gb, go + 2, none⟩ = some (ptr eb 0)) (h5 : W.cell? ⟨gb, go + 2 + 4, none⟩ = some (.int .i64 n)) (h3 : W.cell? ⟨eb, 3, none⟩ = some (.iface 139 (ptr cb co))) :
    Calls Yba.prog 109 #[ptr gb go] W fun e w' => e = .returned (ptr cb co) ∧ w' = W := by
  have hf := front_walk gb (go + 2) n (ptr eb 0) W hn h1 h5
  have ht := ta139
  go_enter Yba.func109, Yba.ntmps109
  go_wp2_with (go_at_call 24; refine hf.mono ?_; rintro e w' ⟨rfl, rfl⟩)
  go_ret
  exact ⟨rfl, rfl⟩

def rb (size s2 o1 o2 : Int) : Bool := if s2 < size then true else if size = s2 then decide (o1 < o2) else false

set_option maxRecDepth 100000 in
set_option maxHeartbeats 1000000 in
/-- ranksBefore; it reads. -/
theorem ranks_walk (size n s2 o1 o2 : Int) (gb go eb cb cb2 : Nat) (co co2 : Nat) (W : World) (hn : 0 < n) (hs : W.cell? ⟨gb, go + 1, none⟩ = some (.int .i64 s2)) (h1 : W.cell? ⟨gb, go + 2, none⟩ = some (ptr eb 0)) (h5 : W.cell? ⟨gb, go + 2 + 4, none⟩ = some (.int .i64 n)) (h3 : W.cell? ⟨eb, 3, none⟩ = some (.iface 139 (ptr cb2 co2)))
    (c1 : W.cell? ⟨cb, co + 3, none⟩ = some (.int .u64 o1)) (c2 : W.cell? ⟨cb2, co2 + 3, none⟩ = some (.int .u64 o2)) :
    Calls Yba.prog 108 #[.int .i64 size, ptr cb co, ptr gb go] W fun e w' => e = .returned (.bool (rb size s2 o1 o2)) ∧ ∃ q, w' = W.drewN q := by
  have hf : ∀ m, Calls Yba.prog 109 #[ptr gb go] (W.drewN m) fun e w' => e = .returned (ptr cb2 co2) ∧ w' = W.drewN m := fun m => first_walk gb go eb cb2 co2 n (W.drewN m) hn h1 h5 h3
  by_cases hA : s2 < size
  · have e1 : rb size s2 o1 o2 = true := by simp [rb, hA]
    rw [e1]
    go_enter Yba.func108, Yba.ntmps108
    go_wp2_with fail
    go_quiet (fail)
    go_wp2
    go_ret
    exact ⟨rfl, _, rfl⟩
  · by_cases hB : size = s2
    · subst hB
      have e1 : rb size size o1 o2 = decide (o1 < o2) := by simp [rb]
      rw [e1]
      go_enter Yba.func108, Yba.ntmps108
      go_wp2_with fail
      go_quiet (first | (go_at_call 109; refine Calls.quiet_of_same (hf _)))
      go_wp2
      go_ret
      exact ⟨rfl, _, rfl⟩
    · have e1 : rb size s2 o1 o2 = false := by simp [rb, hA, hB]
      rw [e1]
      go_enter Yba.func108, Yba.ntmps108
      go_wp2_with fail
      go_quiet (fail)
      go_wp2
      go_ret
      exact ⟨congrArg (fun b => Ending.returned (Value.bool b)) (decide_eq_false (by omega)), _, rfl⟩
end Go.Proofs.Ybulkdcoi
