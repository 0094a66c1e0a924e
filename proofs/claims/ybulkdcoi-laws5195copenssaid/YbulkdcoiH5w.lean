/-
  'Swap', 'Less', 'Len' OF A RANKING (way groups), ON THE PURE MEMORY; the heap's 'up'.
-/
import Derived.Test.YbulkdcoiR
import Derived.Test.YbulkdcoiH4w
namespace Go.Proofs.Ybulkdcoi
open Go.RowKit
set_option linter.unusedVariables false

theorem way_swap {R : Nat → Nat → Prop} {Mem : Nat → Nat → Prop} {RB ro A cap n : Nat} (M : Cel) (W : World) (i j : Nat) (hA : Agr W M) (h : Rk M R Mem RB ro A cap n) (hi : i < n) (hj : j < n) (hn : n ≤ 100000) (hij : i ≠ j) :
    Calls Yba.prog 96 #[ptr RB ro, .int .i64 i, .int .i64 j] W fun e w' => e = .returned (.tuple #[]) ∧ ∃ M', Stp W M w' M' ∧ Rk M' R Mem RB ro A cap n ∧ Kp M M' R ∧ M' A i = M A j ∧ M' A j = M A i ∧ (∀ k, k ≠ i → k ≠ j → M' A k = M A k) := by
  obtain ⟨gb, go, g1, e1, r1⟩ := h.ent i hi
  obtain ⟨hb, ho, g2, e2, r2⟩ := h.ent j hj
  have d := h.apart hi hj hij e1 e2
  obtain ⟨gA, gR, gr⟩ := h.far _ _ g1
  obtain ⟨hA', hR, hr⟩ := h.far _ _ g2
  refine way_swap_raw RB ro A i j n cap gb go hb ho _ _ W _ hi hj hn hij h.RA (Ne.symm gR) (Ne.symm hR) gA hA' d (hA _ _ _ h.hdr).1 (hA _ _ _ e1).1 (hA _ _ _ e2).1 (hA _ _ _ e1).2 (hA _ _ _ e2).2 (hA _ _ _ r1).1 (hA _ _ _ r2).1 (hA _ _ _ r1).2 (hA _ _ _ r2).2 ?_
  obtain ⟨k1, k2, k3, k4, k5⟩ := h.swap hi hj hij g1 g2 e1 e2 d
  refine ⟨_, ?_, k1, k2, k3.trans e2.symm, k4.trans e1.symm, k5⟩
  have s1 := (Stp.refl hA).set e1 (ptr hb ho)
  have s2 := s1.set (b := A) (o := j) (u := ptr hb ho) (by rw [up_other _ _ (Or.inr (Ne.symm hij))]; exact e2) (ptr gb go)
  have s3 := s2.drew.set (b := hb) (o := ho + 7) (u := .int .i64 ((j : Int) + 1)) (by rw [up_other _ _ (Or.inl hA'), up_other _ _ (Or.inl hA')]; exact r2) (.int .i64 ((i : Int) + 1))
  have s4 := s3.set (b := gb) (o := go + 7) (u := .int .i64 ((i : Int) + 1)) (by rw [up_other _ _ (by rcases d with d | d <;> omega), up_other _ _ (Or.inl gA), up_other _ _ (Or.inl gA)]; exact r1) (.int .i64 ((j : Int) + 1))
  exact s4.drew

theorem way_lessM {R : Nat → Nat → Prop} {Mem : Nat → Nat → Prop} {RB ro A cap n : Nat} (M : Cel) (W : World) (i j : Nat) (hA : Agr W M) (h : Rk M R Mem RB ro A cap n) (hi : i < n) (hj : j < n) (hn : n ≤ 100000)
    (oi : ∀ gb go, M A i = some (ptr gb go) → WayOkM R M gb go) (oj : ∀ gb go, M A j = some (ptr gb go) → WayOkM R M gb go) :
    ∃ b, ∀ m, Calls Yba.prog 93 #[ptr RB ro, .int .i64 i, .int .i64 j] (W.drewN m) fun e w' => e = .returned (.bool b) ∧ ∃ q, w' = (W.drewN m).drewN q := by
  obtain ⟨gb, go, g1, e1, r1⟩ := h.ent i hi
  obtain ⟨hb, ho, g2, e2, r2⟩ := h.ent j hj
  exact way_less RB ro A i j n cap gb go hb ho W hi hj hn (hA _ _ _ h.hdr).1 (hA _ _ _ e1).1 (hA _ _ _ e2).1 ((oi _ _ e1).world hA) ((oj _ _ e2).world hA)

set_option maxRecDepth 100000 in
theorem way_len (RB ro n cap : Nat) (a : Option Addr) (W : World) (h0 : W.cell? ⟨RB, ro, none⟩ = some (.slice a n cap)) : Calls Yba.prog 13 #[ptr RB ro] W fun e w' => e = .returned (.int .i64 n) ∧ w' = W := by
  go_enter Yba.func13, Yba.ntmps13
  go_wp2
  go_ret
  exact ⟨rfl, rfl⟩

theorem less143 (a : Addr) (w : World) : (method 363 143 (.pointer (some a)) "Less").run Yba.prog w = .ok (93, .pointer (some a)) w := by kernel_rfl
theorem swap143 (a : Addr) (w : World) : (method 363 143 (.pointer (some a)) "Swap").run Yba.prog w = .ok (96, .pointer (some a)) w := by kernel_rfl
theorem len143 (a : Addr) (w : World) : (method 363 143 (.pointer (some a)) "Len").run Yba.prog w = .ok (13, .pointer (some a)) w := by kernel_rfl
theorem push143 (a : Addr) (w : World) : (method 363 143 (.pointer (some a)) "Push").run Yba.prog w = .ok (95, .pointer (some a)) w := by kernel_rfl
theorem pop143 (a : Addr) (w : World) : (method 363 143 (.pointer (some a)) "Pop").run Yba.prog w = .ok (94, .pointer (some a)) w := by kernel_rfl
end Go.Proofs.Ybulkdcoi
