/-
  'before' OF THE TWO KINDS OF GROUPS: some bool, the same whatever was drawn; it reads.
-/
import Derived.Test.YbulkdcoiH1
import Derived.Deep.RegionWith
namespace Go.Proofs.Ybulkdcoi
open Go.RowKit
set_option linter.unusedVariables false

/-- A way group that can be compared: its size, its first element, that one's place and order. -/
def WayOk (W : World) (gb go : Nat) : Prop := ∃ (s n o : Int) (eb cb co : Nat), 0 < n ∧ W.cell? ⟨gb, go + 1, none⟩ = some (.int .i64 s) ∧ W.cell? ⟨gb, go + 2, none⟩ = some (ptr eb 0) ∧ W.cell? ⟨gb, go + 2 + 4, none⟩ = some (.int .i64 n) ∧ W.cell? ⟨eb, 3, none⟩ = some (.iface 139 (ptr cb co)) ∧ W.cell? ⟨cb, co + 3, none⟩ = some (.int .u64 o)

set_option maxRecDepth 100000 in
set_option maxHeartbeats 1000000 in
theorem way_before (gb go hb ho : Nat) (W : World) (h1 : WayOk W gb go) (h2 : WayOk W hb ho) : ∃ b, ∀ m, Calls Yba.prog 107 #[ptr gb go, ptr hb ho] (W.drewN m) fun e w' => e = .returned (.bool b) ∧ ∃ q, w' = (W.drewN m).drewN q := by
  obtain ⟨s, n, o, eb, cb, co, hn, c1, c2, c3, c4, c5⟩ := h1
  obtain ⟨s', n', o', eb', cb', co', hn', c1', c2', c3', c4', c5'⟩ := h2
  refine ⟨rb s s' o o', fun m0 => ?_⟩
  replace c1 : (W.drewN m0).cell? ⟨gb, go + 1, none⟩ = some (.int .i64 s) := c1
  replace c2 : (W.drewN m0).cell? ⟨gb, go + 2, none⟩ = some (ptr eb 0) := c2
  replace c3 : (W.drewN m0).cell? ⟨gb, go + 2 + 4, none⟩ = some (.int .i64 n) := c3
  replace c4 : (W.drewN m0).cell? ⟨eb, 3, none⟩ = some (.iface 139 (ptr cb co)) := c4
  replace c5 : (W.drewN m0).cell? ⟨cb, co + 3, none⟩ = some (.int .u64 o) := c5
  replace c1' : (W.drewN m0).cell? ⟨hb, ho + 1, none⟩ = some (.int .i64 s') := c1'
  replace c2' : (W.drewN m0).cell? ⟨hb, ho + 2, none⟩ = some (ptr eb' 0) := c2'
  replace c3' : (W.drewN m0).cell? ⟨hb, ho + 2 + 4, none⟩ = some (.int .i64 n') := c3'
  replace c4' : (W.drewN m0).cell? ⟨eb', 3, none⟩ = some (.iface 139 (ptr cb' co')) := c4'
  replace c5' : (W.drewN m0).cell? ⟨cb', co' + 3, none⟩ = some (.int .u64 o') := c5'
  generalize W.drewN m0 = W at *
  have hf : ∀ m, Calls Yba.prog 109 #[ptr gb go] (W.drewN m) fun e w' => e = .returned (ptr cb co) ∧ w' = W.drewN m := fun m => first_walk gb go eb cb co n (W.drewN m) hn c2 c3 c4
  have hr : ∀ m, Calls Yba.prog 108 #[.int .i64 s, ptr cb co, ptr hb ho] (W.drewN m) fun e w' => e = .returned (.bool (rb s s' o o')) ∧ ∃ q, w' = (W.drewN m).drewN q := fun m => ranks_walk s n' s' o o' hb ho eb' cb cb' co co' (W.drewN m) hn' c1' c2' c3' c4' c5 c5'
  go_enter Yba.func107, Yba.ntmps107
  go_wp2_with fail
  go_quiet (first | (go_at_call 109; refine Calls.quiet_of_same (hf _)) | (go_at_call 108; refine Calls.quiet_of (hr _)))
  go_wp2
  go_ret
  exact ⟨rfl, _, rfl⟩

/-- An age group that can be compared: its first element, that one's place and number. -/
def AgeOk (W : World) (gb go : Nat) : Prop := ∃ (n o : Int) (eb cb co : Nat), 0 < n ∧ W.cell? ⟨gb, go + 1, none⟩ = some (ptr eb 0) ∧ W.cell? ⟨gb, go + 1 + 4, none⟩ = some (.int .i64 n) ∧ W.cell? ⟨eb, 3, none⟩ = some (.iface 131 (ptr cb co)) ∧ W.cell? ⟨cb, co + 3, none⟩ = some (.int .u64 o)

set_option maxRecDepth 100000 in
set_option maxHeartbeats 1000000 in
theorem age_before (gb go hb ho : Nat) (W : World) (h1 : AgeOk W gb go) (h2 : AgeOk W hb ho) : ∃ b, ∀ m, Calls Yba.prog 106 #[ptr gb go, ptr hb ho] (W.drewN m) fun e w' => e = .returned (.bool b) ∧ ∃ q, w' = (W.drewN m).drewN q := by
  obtain ⟨n, o, eb, cb, co, hn, c2, c3, c4, c5⟩ := h1
  obtain ⟨n', o', eb', cb', co', hn', c2', c3', c4', c5'⟩ := h2
  refine ⟨decide (o < o'), fun m0 => ?_⟩
  replace c2 : (W.drewN m0).cell? ⟨gb, go + 1, none⟩ = some (ptr eb 0) := c2
  replace c3 : (W.drewN m0).cell? ⟨gb, go + 1 + 4, none⟩ = some (.int .i64 n) := c3
  replace c4 : (W.drewN m0).cell? ⟨eb, 3, none⟩ = some (.iface 131 (ptr cb co)) := c4
  replace c5 : (W.drewN m0).cell? ⟨cb, co + 3, none⟩ = some (.int .u64 o) := c5
  replace c2' : (W.drewN m0).cell? ⟨hb, ho + 1, none⟩ = some (ptr eb' 0) := c2'
  replace c3' : (W.drewN m0).cell? ⟨hb, ho + 1 + 4, none⟩ = some (.int .i64 n') := c3'
  replace c4' : (W.drewN m0).cell? ⟨eb', 3, none⟩ = some (.iface 131 (ptr cb' co')) := c4'
  replace c5' : (W.drewN m0).cell? ⟨cb', co' + 3, none⟩ = some (.int .u64 o') := c5'
  generalize W.drewN m0 = W at *
  have hf : ∀ m, Calls Yba.prog 15 #[ptr gb go] (W.drewN m) fun e w' => e = .returned (ptr cb co) ∧ w' = W.drewN m := fun m => oldest_walk gb go eb cb co n (W.drewN m) hn c2 c3 c4
  have hf' : ∀ m, Calls Yba.prog 15 #[ptr hb ho] (W.drewN m) fun e w' => e = .returned (ptr cb' co') ∧ w' = W.drewN m := fun m => oldest_walk hb ho eb' cb' co' n' (W.drewN m) hn' c2' c3' c4'
  go_enter Yba.func106, Yba.ntmps106
  go_wp2_with fail
  go_quiet (first | (go_at_call_of 15 (ptr gb go); refine Calls.quiet_of_same (hf _)) | (go_at_call_of 15 (ptr hb ho); refine Calls.quiet_of_same (hf' _)))
  go_wp2
  go_ret
  exact ⟨rfl, _, rfl⟩
end Go.Proofs.Ybulkdcoi
