/-
  'Swap' OF THE TWO RANKINGS: the two rows' cells change hands, the two groups' ranks are set.
-/
import Derived.Test.YbulkdcoiH3
import Derived.BigRegion
import Derived.Deep.RegionHeld3
import Derived.Laws.BitsLemmas
namespace Go.Proofs.Ybulkdcoi
open Go.RowKit
set_option linter.unusedVariables false

theorem at86 (a : Addr) (w : World) : (method 363 86 (.pointer (some a)) ((Yba.t86.methods.map (·.name)).getD 0 "")).run Yba.prog w = .ok (85, .pointer (some a)) w := by kernel_rfl

set_option maxRecDepth 100000 in
theorem at_age (gb go : Nat) (W : World) : Calls Yba.prog 85 #[ptr gb go] W fun e w' => e = .returned (ptr gb (go + 7)) ∧ w' = W := by
  go_enter Yba.func85, Yba.ntmps85
  go_wp2
  go_ret
  exact ⟨rfl, rfl⟩

set_option maxRecDepth 100000 in
set_option maxHeartbeats 4000000 in
theorem age_swap_raw (RB ro A i j n cap gb go hb ho : Nat) (v1 v2 : Value) (W : World) (Q : World → Prop) (hi : i < n) (hj : j < n) (hn : n ≤ 100000) (hij : i ≠ j) (hRA : RB ≠ A) (hRg : RB ≠ gb) (hRh : RB ≠ hb) (hgA : gb ≠ A) (hhA : hb ≠ A) (hgh : gb ≠ hb ∨ go ≠ ho)
    (h0 : W.cell? ⟨RB, ro, none⟩ = some (.slice (some ⟨A, 0, none⟩) n cap)) (h1 : W.cell? ⟨A, i, none⟩ = some (ptr gb go)) (h2 : W.cell? ⟨A, j, none⟩ = some (ptr hb ho)) (z1 : W.frozen? ⟨A, i, none⟩ = false) (z2 : W.frozen? ⟨A, j, none⟩ = false)
    (c1 : W.cell? ⟨gb, go + 7, none⟩ = some v1) (c2 : W.cell? ⟨hb, ho + 7, none⟩ = some v2) (f1 : W.frozen? ⟨gb, go + 7, none⟩ = false) (f2 : W.frozen? ⟨hb, ho + 7, none⟩ = false)
    (hQ : Q ((((((W.setCell ⟨A, i, none⟩ (.pointer (some ⟨hb, ho, none⟩))).setCell ⟨A, j, none⟩ (.pointer (some ⟨gb, go, none⟩))).drew).setCell ⟨hb, ho + 7, none⟩ (.int .i64 (i + 1))).setCell ⟨gb, go + 7, none⟩ (.int .i64 (j + 1))).drew)) :
    Calls Yba.prog 92 #[ptr RB ro, .int .i64 i, .int .i64 j] W fun e w' => e = .returned (.tuple #[]) ∧ Q w' := by
  have hRg' : gb ≠ RB := fun e => hRg e.symm
  have hRh' : hb ≠ RB := fun e => hRh e.symm
  have hij' : j ≠ i := fun e => hij e.symm
  have hRA' : A ≠ RB := fun e => hRA e.symm
  have hgA' : A ≠ gb := fun e => hgA e.symm
  have hhA' : A ≠ hb := fun e => hhA e.symm
  have hwi : IntKind.i64.wrap (i + 1) = i + 1 := by rw [IntKind.wrap_i64]; omega
  have hwj : IntKind.i64.wrap (j + 1) = j + 1 := by rw [IntKind.wrap_i64]; omega
  have hm := at86
  simp [Yba.t86] at hm
  rcases hgh with hgh | hgh
  · have hgh' : hb ≠ gb := fun e => hgh e.symm
    go_enter Yba.func92, Yba.ntmps92
    go_wp2_with fail
    go_region
    go_wp2_with fail
    have q0 : (((W.setCell ⟨A, i, none⟩ (.pointer (some ⟨hb, ho, none⟩))).setCell ⟨A, j, none⟩ (.pointer (some ⟨gb, go, none⟩))).drew).cell? ⟨RB, ro, none⟩ = some (.slice (some ⟨A, 0, none⟩) n cap) := by go_simp
    have q1 : (((W.setCell ⟨A, i, none⟩ (.pointer (some ⟨hb, ho, none⟩))).setCell ⟨A, j, none⟩ (.pointer (some ⟨gb, go, none⟩))).drew).cell? ⟨A, i, none⟩ = some (ptr hb ho) := by go_simp
    have q2 : (((W.setCell ⟨A, i, none⟩ (.pointer (some ⟨hb, ho, none⟩))).setCell ⟨A, j, none⟩ (.pointer (some ⟨gb, go, none⟩))).drew).cell? ⟨A, j, none⟩ = some (ptr gb go) := by go_simp
    have q3 : (((W.setCell ⟨A, i, none⟩ (.pointer (some ⟨hb, ho, none⟩))).setCell ⟨A, j, none⟩ (.pointer (some ⟨gb, go, none⟩))).drew).cell? ⟨gb, go + 7, none⟩ = some v1 := by go_simp
    have q4 : (((W.setCell ⟨A, i, none⟩ (.pointer (some ⟨hb, ho, none⟩))).setCell ⟨A, j, none⟩ (.pointer (some ⟨gb, go, none⟩))).drew).cell? ⟨hb, ho + 7, none⟩ = some v2 := by go_simp
    have q5 : (((W.setCell ⟨A, i, none⟩ (.pointer (some ⟨hb, ho, none⟩))).setCell ⟨A, j, none⟩ (.pointer (some ⟨gb, go, none⟩))).drew).frozen? ⟨gb, go + 7, none⟩ = false := by go_simp
    have q6 : (((W.setCell ⟨A, i, none⟩ (.pointer (some ⟨hb, ho, none⟩))).setCell ⟨A, j, none⟩ (.pointer (some ⟨gb, go, none⟩))).drew).frozen? ⟨hb, ho + 7, none⟩ = false := by go_simp
    clear h0 h1 h2 z1 z2 c1 c2 f1 f2
    generalize (((W.setCell ⟨A, i, none⟩ (.pointer (some ⟨hb, ho, none⟩))).setCell ⟨A, j, none⟩ (.pointer (some ⟨gb, go, none⟩))).drew) = wq at *
    go_region_held3 (fun w' => w'.cell? ⟨RB, ro, none⟩ = some (.slice (some ⟨A, 0, none⟩) n cap) ∧ w'.cell? ⟨A, i, none⟩ = some (ptr hb ho) ∧ w'.cell? ⟨A, j, none⟩ = some (ptr gb go)) (go_keep) (first | (go_at_call 85; refine (at_age _ _ _).mono ?_; rintro e w' ⟨rfl, rfl⟩))
    all_goals (go_wp2_with fail)
    all_goals go_end0
    all_goals exact ⟨rfl, by simpa [hwi, hwj] using hQ⟩
  · have hgh' : ho ≠ go := fun e => hgh e.symm
    go_enter Yba.func92, Yba.ntmps92
    go_wp2_with fail
    go_region
    go_wp2_with fail
    have q0 : (((W.setCell ⟨A, i, none⟩ (.pointer (some ⟨hb, ho, none⟩))).setCell ⟨A, j, none⟩ (.pointer (some ⟨gb, go, none⟩))).drew).cell? ⟨RB, ro, none⟩ = some (.slice (some ⟨A, 0, none⟩) n cap) := by go_simp
    have q1 : (((W.setCell ⟨A, i, none⟩ (.pointer (some ⟨hb, ho, none⟩))).setCell ⟨A, j, none⟩ (.pointer (some ⟨gb, go, none⟩))).drew).cell? ⟨A, i, none⟩ = some (ptr hb ho) := by go_simp
    have q2 : (((W.setCell ⟨A, i, none⟩ (.pointer (some ⟨hb, ho, none⟩))).setCell ⟨A, j, none⟩ (.pointer (some ⟨gb, go, none⟩))).drew).cell? ⟨A, j, none⟩ = some (ptr gb go) := by go_simp
    have q3 : (((W.setCell ⟨A, i, none⟩ (.pointer (some ⟨hb, ho, none⟩))).setCell ⟨A, j, none⟩ (.pointer (some ⟨gb, go, none⟩))).drew).cell? ⟨gb, go + 7, none⟩ = some v1 := by go_simp
    have q4 : (((W.setCell ⟨A, i, none⟩ (.pointer (some ⟨hb, ho, none⟩))).setCell ⟨A, j, none⟩ (.pointer (some ⟨gb, go, none⟩))).drew).cell? ⟨hb, ho + 7, none⟩ = some v2 := by go_simp
    have q5 : (((W.setCell ⟨A, i, none⟩ (.pointer (some ⟨hb, ho, none⟩))).setCell ⟨A, j, none⟩ (.pointer (some ⟨gb, go, none⟩))).drew).frozen? ⟨gb, go + 7, none⟩ = false := by go_simp
    have q6 : (((W.setCell ⟨A, i, none⟩ (.pointer (some ⟨hb, ho, none⟩))).setCell ⟨A, j, none⟩ (.pointer (some ⟨gb, go, none⟩))).drew).frozen? ⟨hb, ho + 7, none⟩ = false := by go_simp
    clear h0 h1 h2 z1 z2 c1 c2 f1 f2
    generalize (((W.setCell ⟨A, i, none⟩ (.pointer (some ⟨hb, ho, none⟩))).setCell ⟨A, j, none⟩ (.pointer (some ⟨gb, go, none⟩))).drew) = wq at *
    go_region_held3 (fun w' => w'.cell? ⟨RB, ro, none⟩ = some (.slice (some ⟨A, 0, none⟩) n cap) ∧ w'.cell? ⟨A, i, none⟩ = some (ptr hb ho) ∧ w'.cell? ⟨A, j, none⟩ = some (ptr gb go)) (go_keep) (first | (go_at_call 85; refine (at_age _ _ _).mono ?_; rintro e w' ⟨rfl, rfl⟩))
    all_goals (go_wp2_with fail)
    all_goals go_end0
    all_goals exact ⟨rfl, by simpa [hwi, hwj] using hQ⟩

end Go.Proofs.Ybulkdcoi
