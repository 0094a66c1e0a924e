/-
  (*wayQueue).add: a connection in a named group that is there.
-/
import Derived.Test.YbulkdcoiT
namespace Go.Proofs.Ybulkdcoi
open Go.RowKit
set_option linter.unusedVariables false

theorem TailPost.drewN {kd : Nat → Nat × Nat} {K : Nat → Nat → Prop} {W : World} {M : Cel} {Mem : Nat → Nat → Prop} {P cb gb go fb n i s1 la nr : Nat} {gk : Nat × Nat} {hr : Option (Nat × Nat)} {w' : World} {q : Nat} (h : TailPost kd K (W.drewN q) M Mem P cb gb go fb n i s1 la nr gk hr w') (hA : Agr W M) : TailPost kd K W M Mem P cb gb go fb n i s1 la nr gk hr w' := by
  obtain ⟨M', hr', nr', st, r⟩ := h
  exact ⟨M', hr', nr', ((Stp.refl hA).drewN q).trans st, r⟩

theorem RkZ.drewN {W : World} {M : Cel} {K : Nat → Nat → Prop} {Mem : Nat → Nat → Prop} {RB ro n : Nat} {hd : Option (Nat × Nat)} {e : TypeId} (h : RkZ W M K Mem RB ro hd n e) (q : Nat) : RkZ (W.drewN q) M K Mem RB ro hd n e := h.keep (fun _ _ _ h => h) (fun _ _ => Iff.rfl) fun _ _ _ hv _ => hv

theorem eqlm_some (mb : Nat) (w : World) : (binOp .eql 122 (.map (some mb)) (.map none)).run Yba.prog w = .ok (.bool false) w := by kernel_rfl
theorem eqlm_none (w : World) : (binOp .eql 122 (.map none) (.map none)).run Yba.prog w = .ok (.bool true) w := by kernel_rfl

set_option maxRecDepth 100000 in
set_option maxHeartbeats 2000000 in
theorem add_named (kd : Nat → Nat × Nat) (K : Nat → Nat → Prop) (W : World) (M : Cel) (Mem : Nat → Nat → Prop) (P cb gb fb ab n i id s0 la nr mb : Nat) (s : ByteArray) (hr : Option (Nat × Nat)) (v20 v21 v22 v23 : Value) (hA : Agr W M)
    (kP : kd P = (0, 0)) (kc : kd cb = (1, i)) (kg : kd gb = (5, id)) (kab : (0 < n ∧ kd ab = (3, la)) ∨ W.heap.size ≤ ab) (hi : i ≤ 1000) (hn : n ≤ 1000) (hs0 : s0 ≤ 1000) (c3 : M cb 3 = some (.string s)) (hs : s.toList.isEmpty = false) (p6 : M P 6 = some (.map (some mb)))
    (hlook : ∀ q, (Instr.lookup 122 (.map (some mb)) (.string s) false).run Yba.prog (W.drewN q) = .ok (ptr gb 0) (W.drewN q))
    (c20 : M cb 20 = some v20) (c21 : M cb 21 = some v21) (c22 : M cb 22 = some v22) (c23 : M cb 23 = some v23) (g1 : M gb 1 = some (.int .i64 s0)) (hl : Lst M gb 2 fb ab n) (p8 : M P 8 = some (.int .u64 i))
    (rk : RkZ W M K Mem P 7 hr nr 97) (hKR : ∀ b o, K b o → KR kd b o) (gK : K gb 7) (karr : ∀ b, arrB hr b → kd b = (7, 0)) (g7 : Mem gb 0 ∨ (¬ Mem gb 0 ∧ M gb 7 = some (.int .i64 0))) (hnr : nr ≤ 1000)
    (oks : ∀ M', Added M' cb W.heap.size gb 0 n fb i (s0 + 1) → (∀ b o v, M b o = some v → ¬ Tw (5, id) 0 la i (kd b) o → M' b o = some v) → ∀ xb xo, Mem1 Mem gb 0 xb xo → WayOkM (RZ K hr) M' xb xo) :
    Calls Yba.prog 20 #[ptr P 6, ptr cb 20, ptr cb 0] W fun e w' => e = .returned (.tuple #[]) ∧ TailPost kd K W M Mem P cb gb 0 fb n i (s0 + 1) la nr (5, id) hr w' := by
  have ht : ∀ q, Calls Yba.prog 21 #[ptr gb 2, .iface 139 (ptr cb 20)] ((((((W.drewN q).setCell ⟨cb, 20, none⟩ (ptr cb 0)).setCell ⟨cb, 21, none⟩ (ptr gb 0)).setCell ⟨gb, 1, none⟩ (.int .i64 ((s0 : Int) + 1))).setCell ⟨cb, 23, none⟩ (.int .u64 i)).setCell ⟨P, 8, none⟩ (.int .u64 ((i : Int) + 1))) fun e w1 =>
      e = .returned (ptr W.heap.size 0) ∧ w1.cell? ⟨cb, 22, none⟩ = some v22 ∧ w1.frozen? ⟨cb, 22, none⟩ = false ∧
      Calls Yba.prog 28 #[ptr P 6, ptr gb 0] (w1.setCell ⟨cb, 22, none⟩ (ptr W.heap.size 0)) fun e w' => e = .returned (.tuple #[]) ∧ TailPost kd K W M Mem P cb gb 0 fb n i (s0 + 1) la nr (5, id) hr w' := fun q => by
    have := way_tail kd K (W.drewN q) M Mem P cb gb 0 fb ab n i s0 la nr (5, id) hr v20 v21 v22 v23 hA kP kc (Or.inr ⟨id, rfl, rfl⟩) kg kab hn c20 c21 c22 c23 (by simpa using g1) p8 (by simpa using hl) (rk.drewN q) hKR (by simpa using gK) karr (by simpa using g7) hnr oks
    simp only [Nat.zero_add] at this
    exact this.mono fun e w1 ⟨h1, h2, h3, h4⟩ => ⟨h1, h2, h3, h4.mono fun e w' ⟨h5, h6⟩ => ⟨h5, h6.drewN hA⟩⟩
  have hcP : cb ≠ P := fun e => by rw [e, kP] at kc; simp at kc
  have hPc : P ≠ cb := fun e => hcP e.symm
  have hgP : gb ≠ P := fun e => by rw [e, kP] at kg; simp at kg
  have hPg : P ≠ gb := fun e => hgP e.symm
  have hgc : gb ≠ cb := fun e => by rw [e, kc] at kg; simp at kg
  have hcg : cb ≠ gb := fun e => hgc e.symm
  have d3 := (hA _ _ _ c3).1
  have d6 := (hA _ _ _ p6).1
  have d20 := hA _ _ _ c20
  have d21 := hA _ _ _ c21
  have d23 := hA _ _ _ c23
  have d25 := hA _ _ _ g1
  have d8 := hA _ _ _ p8
  have e20 := d20.1; have z20 := d20.2
  have e21 := d21.1; have z21 := d21.2
  have e23 := d23.1; have z23 := d23.2
  have e25 := d25.1; have z25 := d25.2
  have e8 := d8.1; have z8 := d8.2
  clear d20 d21 d23 d25 d8 oks rk karr hKR gK c3 c20 c21 c22 c23 g1 hl p6 p8 g7 hA kP kc kg kab
  have hem := eqlm_some
  go_enter Yba.func20, Yba.ntmps20
  go_wp2_with fail
  go_quiet (fail)
  go_wp2_with (first | (go_at_call 21; refine (ht _).mono ?_; rintro e w1 ⟨rfl, k22, y22, hrr⟩; clear ht) | (go_at_call 28; refine hrr.mono ?_; rintro e w' ⟨rfl, hq⟩))
  go_end0
  exact ⟨rfl, hq⟩
end Go.Proofs.Ybulkdcoi
