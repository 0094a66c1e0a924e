/-
  (*wayQueue).add: a connection in a group of its own.
-/
import Derived.Test.YbulkdcoiT
namespace Go.Proofs.Ybulkdcoi
open Go.RowKit
set_option linter.unusedVariables false

set_option maxRecDepth 100000 in
set_option maxHeartbeats 2000000 in
theorem add_own (kd : Nat → Nat × Nat) (K : Nat → Nat → Prop) (W : World) (M : Cel) (Mem : Nat → Nat → Prop) (P cb fb i la nr : Nat) (hr : Option (Nat × Nat)) (v20 v21 v22 v23 v27 v30 : Value) (hA : Agr W M)
    (kP : kd P = (0, 0)) (kc : kd cb = (1, i)) (hi : i ≤ 1000) (c3 : M cb 3 = some (.string ⟨#[]⟩))
    (c20 : M cb 20 = some v20) (c21 : M cb 21 = some v21) (c22 : M cb 22 = some v22) (c23 : M cb 23 = some v23) (g1 : M cb 25 = some (.int .i64 0)) (g2 : M cb 26 = some (.pointer none)) (g3 : M cb 27 = some v27) (g6 : M cb 30 = some v30) (p8 : M P 8 = some (.int .u64 i))
    (rk : RkZ W M K Mem P 7 hr nr 97) (hKR : ∀ b o, K b o → KR kd b o) (gK : K cb 31) (karr : ∀ b, arrB hr b → kd b = (7, 0)) (hm : ¬ Mem cb 24) (g7 : M cb 31 = some (.int .i64 0)) (hnr : nr ≤ 1000)
    (oks : ∀ M', Added M' cb W.heap.size cb 24 0 fb i 1 → (∀ b o v, M b o = some v → ¬ Tw (1, i) 24 la i (kd b) o → M' b o = some v) → ∀ xb xo, Mem1 Mem cb 24 xb xo → WayOkM (RZ K hr) M' xb xo) :
    Calls Yba.prog 20 #[ptr P 6, ptr cb 20, ptr cb 0] W fun e w' => e = .returned (.tuple #[]) ∧ TailPost kd K W M Mem P cb cb 24 fb 0 i 1 la nr (1, i) hr w' := by
  have ht : Calls Yba.prog 21 #[ptr cb 26, .iface 139 (ptr cb 20)] (((((W.setCell ⟨cb, 20, none⟩ (ptr cb 0)).setCell ⟨cb, 21, none⟩ (ptr cb 24)).setCell ⟨cb, 25, none⟩ (.int .i64 1)).setCell ⟨cb, 23, none⟩ (.int .u64 i)).setCell ⟨P, 8, none⟩ (.int .u64 ((i : Int) + 1))) fun e w1 =>
      e = .returned (ptr W.heap.size 0) ∧ w1.cell? ⟨cb, 22, none⟩ = some v22 ∧ w1.frozen? ⟨cb, 22, none⟩ = false ∧
      Calls Yba.prog 28 #[ptr P 6, ptr cb 24] (w1.setCell ⟨cb, 22, none⟩ (ptr W.heap.size 0)) fun e w' => e = .returned (.tuple #[]) ∧ TailPost kd K W M Mem P cb cb 24 fb 0 i 1 la nr (1, i) hr w' :=
    way_tail kd K W M Mem P cb cb 24 fb W.heap.size 0 i 0 la nr (1, i) hr v20 v21 v22 v23 hA kP kc (Or.inl ⟨rfl, rfl, rfl⟩) kc (Or.inr (Nat.le_refl _)) (by omega) c20 c21 c22 c23 g1 p8 (Or.inl ⟨rfl, g2, ⟨v27, g3⟩, ⟨v30, g6⟩⟩) rk hKR gK karr (Or.inr ⟨hm, g7⟩) hnr oks
  have hcP : cb ≠ P := fun e => by rw [e, kP] at kc; simp at kc
  have hPc : P ≠ cb := fun e => hcP e.symm
  have d3 := (hA _ _ _ c3).1
  have d20 := hA _ _ _ c20
  have d21 := hA _ _ _ c21
  have d23 := hA _ _ _ c23
  have d25 := hA _ _ _ g1
  have d8 := hA _ _ _ p8
  have e20 := d20.1; have z20 := d20.2
  have e21 := d21.1; have z21 := d21.2
  have e23 := d23.1; have z23 := d23.2
  have e25 := d25.1; have z25 := d25.2
  have e8 := d8.1; have z8 := d8.2
  clear d20 d21 d23 d25 d8 oks rk karr hKR gK c3 c20 c21 c22 c23 g1 g2 g3 g6 p8 g7 hA kP kc hm
  go_enter Yba.func20, Yba.ntmps20
  go_wp2_with (first | (go_at_call 21; refine ht.mono ?_; rintro e w1 ⟨rfl, k22, y22, hrr⟩; clear ht) | (go_at_call 28; refine hrr.mono ?_; rintro e w' ⟨rfl, hq⟩))
  go_end0
  exact ⟨rfl, hq⟩
end Go.Proofs.Ybulkdcoi
