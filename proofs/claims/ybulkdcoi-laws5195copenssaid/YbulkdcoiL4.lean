/-
  (*list.List).Remove OF THE ONLY ELEMENT.
-/
import Derived.Test.YbulkdcoiL3
import Derived.LaidEqlPtr
namespace Go.Proofs.Ybulkdcoi
open Go.RowKit
set_option linter.unusedVariables false

set_option maxRecDepth 100000 in
set_option maxHeartbeats 1000000 in
theorem remove_raw (lb lo eb : Nat) (n : Int) (v0 v1 v2 : Value) (W : World) (hn : 0 < n) (hn2 : n ≤ 100000) (hel : eb ≠ lb)
    (h0 : W.cell? ⟨eb, 0, none⟩ = some (ptr lb lo)) (h1 : W.cell? ⟨eb, 1, none⟩ = some (ptr lb lo)) (h2 : W.cell? ⟨eb, 2, none⟩ = some v2)
    (c0 : W.cell? ⟨lb, lo, none⟩ = some v0) (c1 : W.cell? ⟨lb, lo + 1, none⟩ = some v1) (c4 : W.cell? ⟨lb, lo + 4, none⟩ = some (.int .i64 n))
    (z0 : W.frozen? ⟨lb, lo, none⟩ = false) (z1 : W.frozen? ⟨lb, lo + 1, none⟩ = false) (z4 : W.frozen? ⟨lb, lo + 4, none⟩ = false) (f0 : W.frozen? ⟨eb, 0, none⟩ = false) (f1 : W.frozen? ⟨eb, 1, none⟩ = false) (f2 : W.frozen? ⟨eb, 2, none⟩ = false) :
    Calls Yba.prog 60 #[ptr lb lo, ptr eb 0] W fun e w' => e = .returned (.tuple #[]) ∧
      w' = ((((((W.setCell ⟨lb, lo, none⟩ (ptr lb lo)).setCell ⟨lb, lo + 1, none⟩ (ptr lb lo)).setCell ⟨eb, 0, none⟩ (.pointer none)).setCell ⟨eb, 1, none⟩ (.pointer none)).setCell ⟨eb, 2, none⟩ (.pointer none)).setCell ⟨lb, lo + 4, none⟩ (.int .i64 (n - 1))).drew.drew := by
  go_enter Yba.func60, Yba.ntmps60
  go_wp2_with fail
  go_region
  all_goals (try go_wp2_with fail)
  all_goals (try go_region)
  all_goals (try go_wp2)
  go_end0
  exact ⟨rfl, rfl⟩

theorem info92 : (Yba.prog.info? 92).isSome = true := by kernel_rfl
theorem eql88 (a : Addr) (w : World) : (binOp .eql 88 (.pointer (some a)) (.pointer (some a))).run Yba.prog w = .ok (.bool true) w := by
  obtain ⟨j, hj⟩ := Option.isSome_iff_exists.1 info92
  exact run_eql_ptr_same w a Yba.underlying88 hj

/-- The memory behind it. -/
def removed (M : Cel) (lb lo eb : Nat) (n : Int) : Cel :=
  up (up (up (up (up (up M lb lo (ptr lb lo)) lb (lo + 1) (ptr lb lo)) eb 0 (.pointer none)) eb 1 (.pointer none)) eb 2 (.pointer none)) lb (lo + 4) (.int .i64 (n - 1))

set_option maxRecDepth 100000 in
theorem remove_one (lb lo eb : Nat) (n : Int) (v0 v1 v3 : Value) (W : World) (M : Cel) (hA : Agr W M) (hn : 0 < n) (hn2 : n ≤ 100000) (hel : eb ≠ lb)
    (h0 : M eb 0 = some (ptr lb lo)) (h1 : M eb 1 = some (ptr lb lo)) (h2 : M eb 2 = some (ptr lb lo)) (h3 : M eb 3 = some v3) (c0 : M lb lo = some v0) (c1 : M lb (lo + 1) = some v1) (c4 : M lb (lo + 4) = some (.int .i64 n)) :
    Calls Yba.prog 51 #[ptr lb lo, ptr eb 0] W fun e w' => ∃ v, e = .returned v ∧ Stp W M w' (removed M lb lo eb n) := by
  have hel' : lb ≠ eb := fun e => hel e.symm
  have s1 := (Stp.refl hA).set c0 (ptr lb lo)
  have s2 := s1.set (b := lb) (o := lo + 1) (u := v1) (by rw [up_other _ _ (Or.inr (by omega))]; exact c1) (ptr lb lo)
  have s3 := s2.set (b := eb) (o := 0) (u := ptr lb lo) (by rw [up_other _ _ (Or.inl hel), up_other _ _ (Or.inl hel)]; exact h0) (.pointer none)
  have s4 := s3.set (b := eb) (o := 1) (u := ptr lb lo) (by rw [up_other _ _ (Or.inr (by decide)), up_other _ _ (Or.inl hel), up_other _ _ (Or.inl hel)]; exact h1) (.pointer none)
  have s5 := s4.set (b := eb) (o := 2) (u := ptr lb lo) (by rw [up_other _ _ (Or.inr (by decide)), up_other _ _ (Or.inr (by decide)), up_other _ _ (Or.inl hel), up_other _ _ (Or.inl hel)]; exact h2) (.pointer none)
  have s6 := s5.set (b := lb) (o := lo + 4) (u := .int .i64 n) (by rw [up_other _ _ (Or.inl hel'), up_other _ _ (Or.inl hel'), up_other _ _ (Or.inl hel'), up_other _ _ (Or.inr (by omega)), up_other _ _ (Or.inr (by omega))]; exact c4) (.int .i64 (n - 1))
  have s7 : Stp W M _ (removed M lb lo eb n) := s6.drew.drew
  have m3 : removed M lb lo eb n eb 3 = some v3 := by
    unfold removed
    rw [up_other _ _ (Or.inl hel), up_other _ _ (Or.inr (by decide)), up_other _ _ (Or.inr (by decide)), up_other _ _ (Or.inr (by decide)), up_other _ _ (Or.inl hel), up_other _ _ (Or.inl hel)]
    exact h3
  have hr : Calls Yba.prog 60 #[ptr lb lo, ptr eb 0] W fun e w' => e = .returned (.tuple #[]) ∧ Stp W M w' (removed M lb lo eb n) ∧ w'.cell? ⟨eb, 3, none⟩ = some v3 :=
    (remove_raw lb lo eb n v0 v1 _ W hn hn2 hel (hA _ _ _ h0).1 (hA _ _ _ h1).1 (hA _ _ _ h2).1 (hA _ _ _ c0).1 (hA _ _ _ c1).1 (hA _ _ _ c4).1 (hA _ _ _ c0).2 (hA _ _ _ c1).2 (hA _ _ _ c4).2 (hA _ _ _ h0).2 (hA _ _ _ h1).2 (hA _ _ _ h2).2).mono
      fun e w' ⟨he, hw⟩ => by subst hw; exact ⟨he, s7, (s7.agr _ _ _ m3).1⟩
  have k2 := (hA _ _ _ h2).1
  have he := eql88
  clear s1 s2 s3 s4 s5 s6 s7 m3 h0 h1 h2 h3 c0 c1 c4 hA
  go_enter Yba.func51, Yba.ntmps51
  go_wp2_with (go_at_call 60; refine hr.mono ?_; rintro e w' ⟨rfl, hst, hc⟩)
  go_ret
  exact ⟨_, rfl, hst⟩
end Go.Proofs.Ybulkdcoi
