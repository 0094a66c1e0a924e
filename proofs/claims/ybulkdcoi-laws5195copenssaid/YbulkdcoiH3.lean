/-
  'Less' OF THE TWO RANKINGS: some bool; it reads.
-/
import Derived.Test.YbulkdcoiH2
namespace Go.Proofs.Ybulkdcoi
open Go.RowKit
set_option linter.unusedVariables false
theorem before97 (a : Addr) (w : World) : (method 363 97 (.pointer (some a)) ((Yba.t97.methods.map (·.name)).getD 1 "")).run Yba.prog w = .ok (107, .pointer (some a)) w := by kernel_rfl

set_option maxRecDepth 100000 in
set_option maxHeartbeats 400000 in
theorem way_less (RB ro A i j n cap gb go hb ho : Nat) (W : World) (hi : i < n) (hj : j < n) (hn : n ≤ 100000) (h0 : W.cell? ⟨RB, ro, none⟩ = some (.slice (some ⟨A, 0, none⟩) n cap)) (h1 : W.cell? ⟨A, i, none⟩ = some (ptr gb go)) (h2 : W.cell? ⟨A, j, none⟩ = some (ptr hb ho)) (k1 : WayOk W gb go) (k2 : WayOk W hb ho) :
    ∃ b, ∀ m, Calls Yba.prog 93 #[ptr RB ro, .int .i64 i, .int .i64 j] (W.drewN m) fun e w' => e = .returned (.bool b) ∧ ∃ q, w' = (W.drewN m).drewN q := by
  obtain ⟨b, hb0⟩ := way_before gb go hb ho W k1 k2
  refine ⟨b, fun m0 => ?_⟩
  clear k1 k2
  have hb' : ∀ m, Calls Yba.prog 107 #[ptr gb go, ptr hb ho] ((W.drewN m0).drewN m) fun e w' => e = .returned (.bool b) ∧ ∃ q, w' = ((W.drewN m0).drewN m).drewN q := fun m => by
    rw [World.drewN_drewN]
    exact hb0 (m0 + m)
  clear hb0
  replace h0 : (W.drewN m0).cell? ⟨RB, ro, none⟩ = some (.slice (some ⟨A, 0, none⟩) n cap) := h0
  replace h1 : (W.drewN m0).cell? ⟨A, i, none⟩ = some (ptr gb go) := h1
  replace h2 : (W.drewN m0).cell? ⟨A, j, none⟩ = some (ptr hb ho) := h2
  generalize W.drewN m0 = W at *
  have hm := before97
  simp [Yba.t97] at hm
  go_enter Yba.func93, Yba.ntmps93
  go_wp2_with fail
  go_quiet (first | (go_at_call 107; refine Calls.quiet_of (hb' _)))
  go_wp2
  go_ret
  exact ⟨rfl, _, rfl⟩

theorem before86 (a : Addr) (w : World) : (method 363 86 (.pointer (some a)) ((Yba.t86.methods.map (·.name)).getD 1 "")).run Yba.prog w = .ok (106, .pointer (some a)) w := by kernel_rfl

set_option maxRecDepth 100000 in
set_option maxHeartbeats 400000 in
theorem age_less (RB ro A i j n cap gb go hb ho : Nat) (W : World) (hi : i < n) (hj : j < n) (hn : n ≤ 100000) (h0 : W.cell? ⟨RB, ro, none⟩ = some (.slice (some ⟨A, 0, none⟩) n cap)) (h1 : W.cell? ⟨A, i, none⟩ = some (ptr gb go)) (h2 : W.cell? ⟨A, j, none⟩ = some (ptr hb ho)) (k1 : AgeOk W gb go) (k2 : AgeOk W hb ho) :
    ∃ b, ∀ m, Calls Yba.prog 89 #[ptr RB ro, .int .i64 i, .int .i64 j] (W.drewN m) fun e w' => e = .returned (.bool b) ∧ ∃ q, w' = (W.drewN m).drewN q := by
  obtain ⟨b, hb0⟩ := age_before gb go hb ho W k1 k2
  refine ⟨b, fun m0 => ?_⟩
  clear k1 k2
  have hb' : ∀ m, Calls Yba.prog 106 #[ptr gb go, ptr hb ho] ((W.drewN m0).drewN m) fun e w' => e = .returned (.bool b) ∧ ∃ q, w' = ((W.drewN m0).drewN m).drewN q := fun m => by
    rw [World.drewN_drewN]
    exact hb0 (m0 + m)
  clear hb0
  replace h0 : (W.drewN m0).cell? ⟨RB, ro, none⟩ = some (.slice (some ⟨A, 0, none⟩) n cap) := h0
  replace h1 : (W.drewN m0).cell? ⟨A, i, none⟩ = some (ptr gb go) := h1
  replace h2 : (W.drewN m0).cell? ⟨A, j, none⟩ = some (ptr hb ho) := h2
  generalize W.drewN m0 = W at *
  have hm := before86
  simp [Yba.t86] at hm
  go_enter Yba.func89, Yba.ntmps89
  go_wp2_with fail
  go_quiet (first | (go_at_call 106; refine Calls.quiet_of (hb' _)))
  go_wp2
  go_ret
  exact ⟨rfl, _, rfl⟩
end Go.Proofs.Ybulkdcoi
