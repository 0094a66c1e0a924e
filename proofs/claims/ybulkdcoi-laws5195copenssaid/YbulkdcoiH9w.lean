/-
  'Pop' OF A RANKING (way groups): the raw walk.
-/
import Derived.Test.YbulkdcoiH5w
namespace Go.Proofs.Ybulkdcoi
open Go.RowKit
set_option linter.unusedVariables false

set_option maxRecDepth 100000 in
set_option maxHeartbeats 1000000 in
theorem way_pop_raw (RB ro A n cap gb go : Nat) (v0 : Value) (W : World) (Q : World → Prop) (hn : n ≤ 100000) (hnc : n + 1 ≤ cap) (hRg : RB ≠ gb) (hRA : RB ≠ A) (hgA : gb ≠ A)
    (h0 : W.cell? ⟨RB, ro, none⟩ = some (.slice (some ⟨A, 0, none⟩) (n + 1) cap)) (z0 : W.frozen? ⟨RB, ro, none⟩ = false) (h1 : W.cell? ⟨A, n, none⟩ = some (ptr gb go)) (z1 : W.frozen? ⟨A, n, none⟩ = false)
    (k7 : W.cell? ⟨gb, go + 7, none⟩ = some v0) (z7 : W.frozen? ⟨gb, go + 7, none⟩ = false)
    (hQ : Q ((((W.setCell ⟨A, n, none⟩ (.pointer none)).setCell ⟨RB, ro, none⟩ (.slice (some ⟨A, 0, none⟩) n cap)).setCell ⟨gb, go + 7, none⟩ (.int .i64 0)).drew)) :
    Calls Yba.prog 94 #[ptr RB ro] W fun e w' => (∃ v, e = .returned v) ∧ Q w' := by
  have hm := at97
  simp [Yba.t97] at hm
  have hRg' : gb ≠ RB := fun e => hRg e.symm
  have hRA' : A ≠ RB := fun e => hRA e.symm
  have hgA' : A ≠ gb := fun e => hgA e.symm
  have g7 : ((W.setCell ⟨A, n, none⟩ (.pointer none)).setCell ⟨RB, ro, none⟩ (.slice (some ⟨A, 0, none⟩) n cap)).cell? ⟨gb, go + 7, none⟩ = some v0 := by go_simp
  have y7 : ((W.setCell ⟨A, n, none⟩ (.pointer none)).setCell ⟨RB, ro, none⟩ (.slice (some ⟨A, 0, none⟩) n cap)).frozen? ⟨gb, go + 7, none⟩ = false := by go_simp
  go_enter Yba.func94, Yba.ntmps94
  go_wp2_with fail
  go_region
  all_goals (go_wp2_with (go_at_call 87; refine (at_way _ _ _).mono ?_; rintro e w' ⟨rfl, rfl⟩))
  all_goals go_ret
  all_goals exact ⟨⟨_, rfl⟩, by simpa using hQ⟩
end Go.Proofs.Ybulkdcoi
