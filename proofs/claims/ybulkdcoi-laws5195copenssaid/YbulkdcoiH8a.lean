/-
  'Push' OF A RANKING (age groups): the raw walk.
-/
import Derived.Test.YbulkdcoiH5a
import Derived.Test.YbulkdcoiA
namespace Go.Proofs.Ybulkdcoi
open Go.RowKit
set_option linter.unusedVariables false

theorem ta86 (v : Value) (w : World) : (Instr.typeAssert (.iface 86 v) 20 86 false).run Yba.prog w = .ok v w := by kernel_rfl

set_option maxRecDepth 100000 in
set_option maxHeartbeats 1000000 in
theorem age_push_raw (RB ro A' n cap' gb go : Nat) (v v0 : Value) (W w2 : World) (Q : World → Prop) (hn : n ≤ 100000) (hRg : RB ≠ gb)
    (hrun : (Builtin.append_ #[119, 119] 119 #[v, .slice (some ⟨W.heap.size, 0, none⟩) 1 1]).run Yba.prog (W.alloc (.cells #[ptr gb go] 86)) = .ok (.slice (some ⟨A', 0, none⟩) (n + 1) cap') w2)
    (h0 : W.cell? ⟨RB, ro, none⟩ = some v)
    (k0 : w2.cell? ⟨RB, ro, none⟩ = some v) (z0 : w2.frozen? ⟨RB, ro, none⟩ = false) (k7 : w2.cell? ⟨gb, go + 7, none⟩ = some v0) (z7 : w2.frozen? ⟨gb, go + 7, none⟩ = false)
    (hQ : Q (((w2.setCell ⟨RB, ro, none⟩ (.slice (some ⟨A', 0, none⟩) (n + 1) cap')).setCell ⟨gb, go + 7, none⟩ (.int .i64 ((n : Int) + 1))).drew)) :
    Calls Yba.prog 91 #[ptr RB ro, .iface 86 (ptr gb go)] W fun e w' => e = .returned (.tuple #[]) ∧ Q w' := by
  have ht := ta86
  have hm := at86
  simp [Yba.t86] at hm
  have hRg' : gb ≠ RB := fun e => hRg e.symm
  have g0 : (w2.setCell ⟨RB, ro, none⟩ (.slice (some ⟨A', 0, none⟩) (n + 1) cap')).cell? ⟨RB, ro, none⟩ = some (.slice (some ⟨A', 0, none⟩) (n + 1) cap') := World.cell?_setCell_same _ _ _ k0
  have g7 : (w2.setCell ⟨RB, ro, none⟩ (.slice (some ⟨A', 0, none⟩) (n + 1) cap')).cell? ⟨gb, go + 7, none⟩ = some v0 := by go_simp
  have y7 : (w2.setCell ⟨RB, ro, none⟩ (.slice (some ⟨A', 0, none⟩) (n + 1) cap')).frozen? ⟨gb, go + 7, none⟩ = false := by go_simp
  have hW : ∀ (C : World → Prop), C (w2.setCell ⟨RB, ro, none⟩ (.slice (some ⟨A', 0, none⟩) (n + 1) cap')) → C (w2.setCell ⟨RB, ro, none⟩ (.slice (some ⟨A', 0, none⟩) (n + 1) cap')) := fun _ h => h
  go_enter Yba.func91, Yba.ntmps91
  go_wp2_with (first | (at_builtin; refine wpList_app rfl _ _ 119 rfl _ _ rfl rfl _ w2 hrun ?_))
  generalize (w2.setCell ⟨RB, ro, none⟩ (.slice (some ⟨A', 0, none⟩) (n + 1) cap')) = w3 at *
  go_region_with (go_at_call 85; refine (at_age _ _ _).mono ?_; rintro e w' ⟨rfl, rfl⟩)
  all_goals (go_wp2_with fail)
  all_goals go_end0
  all_goals exact ⟨rfl, by simpa using hQ⟩
end Go.Proofs.Ybulkdcoi
