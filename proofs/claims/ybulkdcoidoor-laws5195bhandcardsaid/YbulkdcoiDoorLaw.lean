/-
  THE LAW's WALK, A CASE AT A TIME: in the queue or not, in a group of its own or a named one, shed or not, the last of its group or not.
-/
import Derived.Test.YbulkdcoiDoorNew
import Derived.LaidEql
import Derived.Lib.Builder
namespace Go.Proofs.YbulkdcoiDoor
open Go.RowKit Go.MuLone
set_option linter.unusedVariables false

/-- How the map's elements read: a pointer to the group, or nil. -/
def rdGrp (G : Nat) (v : Value) : Option (DataW Unit × List MemPlace) :=
  match v with
  | .pointer (some a) => if a = ⟨G, 0, none⟩ then some (.lit (.bool true), []) else none
  | .pointer none => some (.lit (.bool false), [])
  | _ => none

/-- 'map[string]*wayGroup{name: g}' AS ONE STEP: some world, in which the new map reads so, and all else is as it was. -/
theorem made (name : ByteArray) (hsz : name.size ≤ maxLen) (G : Nat) : ∃ f : World → World, (∀ (W0 : World) (M : Nat), M = W0.heap.size → (Instr.mapUpdate 62 (.map (some M)) (.string name) (.pointer (some ⟨G, 0, none⟩))).run Ybad.prog (W0.alloc (.map #[] 0)) = .ok () (f W0)) ∧
    ∀ W0 : World, (f W0).ownsMap Ybad.prog 9 (rdGrp G) W0.heap.size 1 ((DataW.map []).put (.string name.data.toList) (.lit (.bool true))) ∧ (W0.alloc (.map #[] 0)).mapTurned (f W0) W0.heap.size := by
  have h : ∀ W0 : World, ∃ w1, (Instr.mapUpdate 62 (.map (some W0.heap.size)) (.string name) (.pointer (some ⟨G, 0, none⟩))).run Ybad.prog (W0.alloc (.map #[] 0)) = .ok () w1 ∧
      w1.ownsMap Ybad.prog 9 (rdGrp G) W0.heap.size 1 ((DataW.map []).put (.string name.data.toList) (.lit (.bool true))) ∧ (W0.alloc (.map #[] 0)).mapTurned w1 W0.heap.size := fun W0 =>
    (World.ownsMap_made (H := Unit) W0 Ybad.prog 9 (rdGrp G)).store (Maps.string_keyed Ybad.underlying9) Ybad.underlying62 (by unfold maxLen; omega) (key := .string name) (kl := .string name.data.toList) (val := .pointer (some ⟨G, 0, none⟩)) (d := .lit (.bool true)) (ps := []) (by simp [keyOf, mapKey, Ybad.underlying9, hsz]) (by simp [rdGrp])
  refine ⟨fun W0 => Classical.choose (h W0), fun W0 M hM => ?_, fun W0 => (Classical.choose_spec (h W0)).2⟩
  subst hM
  exact (Classical.choose_spec (h W0)).1

theorem made_cell {f : World → World} {W0 : World} (h : (W0.alloc (.map #[] 0)).mapTurned (f W0) W0.heap.size) (b o : Nat) (hb : b < W0.heap.size) : (f W0).cell? ⟨b, o, none⟩ = W0.cell? ⟨b, o, none⟩ ∧ (f W0).frozen? ⟨b, o, none⟩ = W0.frozen? ⟨b, o, none⟩ := by
  have ht := turned_cell h ⟨b, o, none⟩ (Nat.ne_of_lt hb)
  have hB := (Below.refl W0.heap.size W0).alloc (Nat.le_refl _) (.map #[] 0)
  exact ⟨ht.1.trans (hB.cell (p := ⟨b, o, none⟩) hb), ht.2.trans (hB.frozen (p := ⟨b, o, none⟩) hb)⟩

theorem info119 : (Ybad.prog.info? 119).map (fun i => i.comparable) = some true := by kernel_rfl
theorem info151 : (Ybad.prog.info? 151).isSome = true := by kernel_rfl
theorem info43 : (Ybad.prog.info? 43).isSome = true := by kernel_rfl
theorem info61 : (Ybad.prog.info? 61).isSome = true := by kernel_rfl
/-- 'err != errGaveWay' of the sentinel itself. -/
theorem neq_same (a : Addr) (w : World) : (binOp .neq 72 (.iface 119 (.pointer (some a))) (.iface 119 (.pointer (some a)))).run Ybad.prog w = .ok (.bool false) w := by
  obtain ⟨i, hi, hc⟩ := Option.map_eq_some_iff.1 info119
  obtain ⟨j, hj⟩ := Option.isSome_iff_exists.1 info151
  simp only [binOp]
  simp [Op.equal, Op.maxDepth, run_equalIn_iface_ptr_same w 9998 a Ybad.underlying72 Ybad.underlying119 hi hc hj]
theorem neq41 (a : Addr) (w : World) : (binOp .neq 41 (.pointer (some a)) (.pointer (some a))).run Ybad.prog w = .ok (.bool false) w := by
  obtain ⟨j, hj⟩ := Option.isSome_iff_exists.1 info43
  exact Lib.run_neq_ptr_same w a Ybad.underlying41 hj
theorem neq24 (a : Addr) (w : World) : (binOp .neq 24 (.pointer (some a)) (.pointer (some a))).run Ybad.prog w = .ok (.bool false) w := by
  obtain ⟨j, hj⟩ := Option.isSome_iff_exists.1 info61
  exact Lib.run_neq_ptr_same w a Ybad.underlying24 hj

theorem made_below {f : World → World} {w W0 : World} (h : (W0.alloc (.map #[] 0)).mapTurned (f W0) W0.heap.size) (hb : Below w.heap.size w W0) : Below w.heap.size w (f W0) :=
  (hb.alloc hb.size (.map #[] 0)).grown h.grown (by simp; have := hb.size; omega) (fun k hk => by cases hk; exact hb.size)
theorem below4 (w : World) (o1 o2 o3 o4 : Obj) : Below w.heap.size w ((((w.alloc o1).alloc o2).alloc o3).alloc o4) :=
  ((((Below.refl _ _).alloc (Nat.le_refl _) o1).alloc (by simp) o2).alloc (by simp; omega) o3).alloc (by simp; omega) o4
theorem below3 (w : World) (o1 o2 o3 : Obj) : Below w.heap.size w (((w.alloc o1).alloc o2).alloc o3) :=
  (((Below.refl _ _).alloc (Nat.le_refl _) o1).alloc (by simp) o2).alloc (by simp; omega) o3

set_option maxRecDepth 100000 in
set_option maxHeartbeats 4000000 in
theorem law_off_shed (shed name : ByteArray) (size room : Int) (x : Addr) (w : World) (h0 : 0 ≤ size) (h1 : size ≤ 255) (hs : shed.toList.isEmpty = false) (hp : 0 < w.heap.size) (hv : w.cell? ⟨0, 0, none⟩ = some (.iface 119 (.pointer (some x)))) :
    Calls Ybad.prog 3 #[.string shed, .string name, .int .u8 size, .bool false, .int .i64 room] w fun e w' => e = .returned (.bool true) ∧ Below w.heap.size w w' := by
  have hneq := neq_same x
  have h41 := neq41
  have h24 := neq24
  go_enter Ybad.func3, Ybad.ntmps3
  go_wp2_with fail
  refine (new_any _).mono ?_
  rintro e w1 ⟨rfl, rfl⟩
  go_wp2_with fail
  refine (hand_shed w.heap.size (w.heap.size + 1 + 1) shed (.iface 119 (.pointer (some x))) _ (by omega) (by omega) hs ?_ ?_ ?_ ?_ ⟨_, _, rfl⟩).mono ?_
  all_goals try (go_simp; done)
  rintro e w2 ⟨rfl, rfl⟩
  go_wp2_with fail
  refine (try_free ⟨w.heap.size, 0, none⟩ _ ?_ ?_).mono ?_
  · go_simp
  · go_simp
  rintro e w3 ⟨rfl, rfl⟩
  go_wp2_with fail
  refine (unlock_held Ybad.muLib ⟨w.heap.size, 0, none⟩ _ ?_ ?_).mono ?_
  · go_simp
  · go_simp
  rintro e w4 ⟨rfl, rfl⟩
  go_wp2
  go_ret
  exact ⟨rfl, below3 w _ _ _⟩

set_option maxRecDepth 100000 in
set_option maxHeartbeats 4000000 in
theorem law_off_on (shed name : ByteArray) (size room : Int) (x : Addr) (w : World) (h0 : 0 ≤ size) (h1 : size ≤ 255) (hs : shed.toList.isEmpty = true) (hp : 0 < w.heap.size) (hv : w.cell? ⟨0, 0, none⟩ = some (.iface 119 (.pointer (some x)))) :
    Calls Ybad.prog 3 #[.string shed, .string name, .int .u8 size, .bool false, .int .i64 room] w fun e w' => e = .returned (.bool true) ∧ Below w.heap.size w w' := by
  have hneq := neq_same x
  have h41 := neq41
  have h24 := neq24
  go_enter Ybad.func3, Ybad.ntmps3
  go_wp2_with fail
  refine (new_any _).mono ?_
  rintro e w1 ⟨rfl, rfl⟩
  go_wp2_with fail
  refine (hand_nil w.heap.size (w.heap.size + 1 + 1) shed _ (by omega) hs ?_ ?_ ?_ ?_).mono ?_
  all_goals try (go_simp; done)
  rintro e w2 ⟨rfl, rfl⟩
  go_wp2_with fail
  refine (try_free ⟨w.heap.size, 0, none⟩ _ ?_ ?_).mono ?_
  · go_simp
  · go_simp
  rintro e w3 ⟨rfl, rfl⟩
  go_wp2_with fail
  refine (unlock_held Ybad.muLib ⟨w.heap.size, 0, none⟩ _ ?_ ?_).mono ?_
  · go_simp
  · go_simp
  rintro e w4 ⟨rfl, rfl⟩
  go_wp2
  go_ret
  exact ⟨rfl, (below3 w _ _ _).drew⟩

set_option maxRecDepth 100000 in
set_option maxHeartbeats 4000000 in
theorem law_own_shed (shed name : ByteArray) (size room : Int) (x : Addr) (w : World) (h0 : 0 ≤ size) (h1 : size ≤ 255) (hs : shed.toList.isEmpty = false) (hn : name.toList.isEmpty = true) (hp : 0 < w.heap.size) (hv : w.cell? ⟨0, 0, none⟩ = some (.iface 119 (.pointer (some x)))) :
    Calls Ybad.prog 3 #[.string shed, .string name, .int .u8 size, .bool true, .int .i64 room] w fun e w' => e = .returned (.bool true) ∧ Below w.heap.size w w' := by
  have hneq := neq_same x
  have h41 := neq41
  have h24 := neq24
  go_enter Ybad.func3, Ybad.ntmps3
  go_wp2_with fail
  refine (new_any _).mono ?_
  rintro e w1 ⟨rfl, rfl⟩
  go_wp2_with fail
  refine (hand_shed w.heap.size (w.heap.size + 1 + 1) shed (.iface 119 (.pointer (some x))) _ (by omega) (by omega) hs ?_ ?_ ?_ ?_ ⟨_, _, rfl⟩).mono ?_
  all_goals try (go_simp; done)
  rintro e w2 ⟨rfl, rfl⟩
  go_wp2_with fail
  refine (try_free ⟨w.heap.size, 0, none⟩ _ ?_ ?_).mono ?_
  · go_simp
  · go_simp
  rintro e w3 ⟨rfl, rfl⟩
  go_wp2_with fail
  refine (unlock_held Ybad.muLib ⟨w.heap.size, 0, none⟩ _ ?_ ?_).mono ?_
  · go_simp
  · go_simp
  rintro e w4 ⟨rfl, rfl⟩
  go_wp2
  go_ret
  exact ⟨rfl, below3 w _ _ _⟩

set_option maxRecDepth 100000 in
set_option maxHeartbeats 4000000 in
theorem law_own_on (shed name : ByteArray) (size room : Int) (x : Addr) (w : World) (h0 : 0 ≤ size) (h1 : size ≤ 255) (hs : shed.toList.isEmpty = true) (hn : name.toList.isEmpty = true) (hp : 0 < w.heap.size) (hv : w.cell? ⟨0, 0, none⟩ = some (.iface 119 (.pointer (some x)))) :
    Calls Ybad.prog 3 #[.string shed, .string name, .int .u8 size, .bool true, .int .i64 room] w fun e w' => e = .returned (.bool true) ∧ Below w.heap.size w w' := by
  have hneq := neq_same x
  have h41 := neq41
  have h24 := neq24
  go_enter Ybad.func3, Ybad.ntmps3
  go_wp2_with fail
  refine (new_any _).mono ?_
  rintro e w1 ⟨rfl, rfl⟩
  go_wp2_with fail
  refine (hand_own w.heap.size (w.heap.size + 1 + 1) shed (.pointer (some ⟨w.heap.size + 1 + 1, 0, none⟩)) (size % 5 + 1) _ (by omega) hs ?_ ?_ ?_ (by omega) (by omega) ?_ ?_ ?_ ?_ ?_ ?_ ?_ ?_ ?_ ?_).mono ?_
  all_goals try (go_simp; done)
  rintro e w2 ⟨rfl, rfl⟩
  go_wp2_with fail
  refine (try_free ⟨w.heap.size, 0, none⟩ _ ?_ ?_).mono ?_
  · go_simp
  · go_simp
  rintro e w3 ⟨rfl, rfl⟩
  go_wp2_with fail
  refine (unlock_held Ybad.muLib ⟨w.heap.size, 0, none⟩ _ ?_ ?_).mono ?_
  · go_simp
  · go_simp
  rintro e w4 ⟨rfl, rfl⟩
  go_wp2
  go_ret
  exact ⟨rfl, (below3 w _ _ _).drew⟩

end Go.Proofs.YbulkdcoiDoor
