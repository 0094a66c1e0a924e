/-
  THE LAW IN THE NAMED CASE: the connection is counted under its group, and its group is told in the map.
-/
import Derived.Test.YbulkdcoiDoorNamed
namespace Go.Proofs.YbulkdcoiDoor
open Go.RowKit Go.MuLone

set_option maxRecDepth 100000 in
set_option maxHeartbeats 4000000 in
theorem law_named_shed (shed name : ByteArray) (size room : Int) (x : Addr) (w : World) (h0 : 0 ≤ size) (h1 : size ≤ 255) (hs : shed.toList.isEmpty = false) (hn : name.toList.isEmpty = false) (hsz : name.size ≤ maxLen) (hp : 0 < w.heap.size) (hv : w.cell? ⟨0, 0, none⟩ = some (.iface 119 (.pointer (some x)))) :
    Calls Ybad.prog 3 #[.string shed, .string name, .int .u8 size, .bool true, .int .i64 room] w fun e w' => e = .returned (.bool true) ∧ Below w.heap.size w w' := by
  have hneq := neq_same x
  have h41 := neq41
  have h24 := neq24
  have hmm := @run_makeMap Ybad.prog
  obtain ⟨f, hst, hf⟩ := made name hsz (w.heap.size + 1 + 1 + 1)
  have hfc := fun (W0 : World) (b o : Nat) (hb : b < W0.heap.size) => (made_cell (hf W0).2 b o hb).1
  have hff := fun (W0 : World) (b o : Nat) (hb : b < W0.heap.size) => (made_cell (hf W0).2 b o hb).2
  have hfs := fun (W0 : World) => turned_size (hf W0).2
  have HF : Hid (∀ W0 : World, (f W0).ownsMap Ybad.prog 9 (rdGrp (w.heap.size + 1 + 1 + 1)) W0.heap.size 1 ((DataW.map []).put (.string name.data.toList) (.lit (.bool true))) ∧ (W0.alloc (.map #[] 0)).mapTurned (f W0) W0.heap.size) := hf
  clear hf
  go_enter Ybad.func3, Ybad.ntmps3
  go_wp2_with fail
  refine (new_any _).mono ?_
  rintro e w1 ⟨rfl, rfl⟩
  go_wp2_with fail
  clear hst hfc hff hfs
  refine (named_shed (w := w) (R := w.heap.size) (C := w.heap.size + 1 + 1) (G := w.heap.size + 1 + 1 + 1) (t := 119) (x := .pointer (some x)) (n := size % 5 + 1) (D := (DataW.map []).put (.string name.data.toList) (.lit (.bool true))) (name := name) (room := room) (shed := shed) (M := w.heap.size + 1 + 1 + 1 + 1) ?_ (by omega) (by omega) (by omega) (by omega) (by omega) hs).mono ?_
  · refine st0_of (f := f) (ev := .iface 119 (.pointer (some x))) (by go_simp) (HF.out _).2 (HF.out _).1 ?_ ?_ ?_ ?_ (by omega) (by omega) (by omega) hp (by omega) (by omega) (by omega) ?_ ?_ ⟨.map none, ?_⟩ ?_ ⟨.pointer none, ?_⟩ ⟨.pointer none, ?_⟩ ?_ ⟨.int .i64 0, ?_⟩ ?_ ?_ ?_ ?_ ?_ ?_ ?_ ?_ ?_
    · exact below4 w _ _ _ _
    all_goals go_simp
  · rintro e w2 ⟨rfl, st2⟩
    go_wp2_with fail
    refine (try_free ⟨w.heap.size, 0, none⟩ _ st2.lock st2.lockz).mono ?_
    rintro e w3 ⟨rfl, rfl⟩
    go_wp2_with fail
    refine (unlock_held Ybad.muLib ⟨w.heap.size, 0, none⟩ _ (same_cell st2.lock) (by simp [st2.lockz])).mono ?_
    rintro e w4 ⟨rfl, rfl⟩
    have st4 := st2.relock (by omega) (by omega) (by omega) (by omega) (by omega)
    clear st2
    generalize (w2.setCell ⟨w.heap.size, 0, none⟩ (.int .i32 1)).setCell ⟨w.heap.size, 0, none⟩ (.int .i32 0) = w5 at st4 ⊢
    have a1 := st4.rsize
    have a2 := st4.rmap
    have a3 := st4.csize
    have a4 := st4.cc
    have a5 := st4.cg
    have a6 := st4.cshed
    have a7 := st4.gsize
    have a8 := st4.sent
    have a9 := look_g hsz st4.own
    go_wp2_with fail
    go_ret
    exact ⟨rfl, st4.bel⟩

set_option maxRecDepth 100000 in
set_option maxHeartbeats 4000000 in
theorem law_named_keep (shed name : ByteArray) (size room : Int) (x : Addr) (w : World) (h0 : 0 ≤ size) (h1 : size ≤ 255) (hs : shed.toList.isEmpty = true) (h5 : 1 ≤ size % 5) (hn : name.toList.isEmpty = false) (hsz : name.size ≤ maxLen) (hp : 0 < w.heap.size) (hv : w.cell? ⟨0, 0, none⟩ = some (.iface 119 (.pointer (some x)))) :
    Calls Ybad.prog 3 #[.string shed, .string name, .int .u8 size, .bool true, .int .i64 room] w fun e w' => e = .returned (.bool true) ∧ Below w.heap.size w w' := by
  have hneq := neq_same x
  have h41 := neq41
  have h24 := neq24
  have hmm := @run_makeMap Ybad.prog
  obtain ⟨f, hst, hf⟩ := made name hsz (w.heap.size + 1 + 1 + 1)
  have hfc := fun (W0 : World) (b o : Nat) (hb : b < W0.heap.size) => (made_cell (hf W0).2 b o hb).1
  have hff := fun (W0 : World) (b o : Nat) (hb : b < W0.heap.size) => (made_cell (hf W0).2 b o hb).2
  have hfs := fun (W0 : World) => turned_size (hf W0).2
  have HF : Hid (∀ W0 : World, (f W0).ownsMap Ybad.prog 9 (rdGrp (w.heap.size + 1 + 1 + 1)) W0.heap.size 1 ((DataW.map []).put (.string name.data.toList) (.lit (.bool true))) ∧ (W0.alloc (.map #[] 0)).mapTurned (f W0) W0.heap.size) := hf
  clear hf
  go_enter Ybad.func3, Ybad.ntmps3
  go_wp2_with fail
  refine (new_any _).mono ?_
  rintro e w1 ⟨rfl, rfl⟩
  go_wp2_with fail
  clear hst hfc hff hfs
  refine (named_keep (w := w) (R := w.heap.size) (C := w.heap.size + 1 + 1) (G := w.heap.size + 1 + 1 + 1) (ev := .iface 119 (.pointer (some x))) (n := size % 5 + 1) (D := (DataW.map []).put (.string name.data.toList) (.lit (.bool true))) (name := name) (room := room) (shed := shed) (M := w.heap.size + 1 + 1 + 1 + 1) ?_ (by omega) (by omega) (by omega) (by omega) (by omega) (by omega) (by omega) (by omega) (by omega) (by omega) (by omega) (by omega) hs (by omega) (by omega)).mono ?_
  · refine st0_of (f := f) (ev := .iface 119 (.pointer (some x))) (by go_simp) (HF.out _).2 (HF.out _).1 ?_ ?_ ?_ ?_ (by omega) (by omega) (by omega) hp (by omega) (by omega) (by omega) ?_ ?_ ⟨.map none, ?_⟩ ?_ ⟨.pointer none, ?_⟩ ⟨.pointer none, ?_⟩ ?_ ⟨.int .i64 0, ?_⟩ ?_ ?_ ?_ ?_ ?_ ?_ ?_ ?_ ?_
    · exact below4 w _ _ _ _
    all_goals go_simp
  · rintro e w2 ⟨rfl, st2⟩
    go_wp2_with fail
    refine (try_free ⟨w.heap.size, 0, none⟩ _ st2.lock st2.lockz).mono ?_
    rintro e w3 ⟨rfl, rfl⟩
    go_wp2_with fail
    refine (unlock_held Ybad.muLib ⟨w.heap.size, 0, none⟩ _ (same_cell st2.lock) (by simp [st2.lockz])).mono ?_
    rintro e w4 ⟨rfl, rfl⟩
    have st4 := st2.relock (by omega) (by omega) (by omega) (by omega) (by omega)
    clear st2
    generalize (w2.setCell ⟨w.heap.size, 0, none⟩ (.int .i32 1)).setCell ⟨w.heap.size, 0, none⟩ (.int .i32 0) = w5 at st4 ⊢
    have a1 := st4.rsize
    have a2 := st4.rmap
    have a3 := st4.csize
    have a4 := st4.cc
    have a5 := st4.cg
    have a6 := st4.cshed
    have a7 := st4.gsize
    have a8 := st4.sent
    obtain ⟨v9, a9⟩ := look_ok hsz st4.own (has_put _)
    have hd : decide (0 < size % 5) = true := decide_eq_true (by omega)
    go_wp2_with fail
    go_ret
    exact ⟨rfl, st4.bel⟩

set_option maxRecDepth 100000 in
set_option maxHeartbeats 4000000 in
theorem law_named_last (shed name : ByteArray) (size room : Int) (x : Addr) (w : World) (h0 : 0 ≤ size) (h1 : size ≤ 255) (hs : shed.toList.isEmpty = true) (h5 : size % 5 = 0) (hn : name.toList.isEmpty = false) (hsz : name.size ≤ maxLen) (hp : 0 < w.heap.size) (hv : w.cell? ⟨0, 0, none⟩ = some (.iface 119 (.pointer (some x)))) :
    Calls Ybad.prog 3 #[.string shed, .string name, .int .u8 size, .bool true, .int .i64 room] w fun e w' => e = .returned (.bool true) ∧ Below w.heap.size w w' := by
  have hneq := neq_same x
  have h41 := neq41
  have h24 := neq24
  have hmm := @run_makeMap Ybad.prog
  obtain ⟨f, hst, hf⟩ := made name hsz (w.heap.size + 1 + 1 + 1)
  have hfc := fun (W0 : World) (b o : Nat) (hb : b < W0.heap.size) => (made_cell (hf W0).2 b o hb).1
  have hff := fun (W0 : World) (b o : Nat) (hb : b < W0.heap.size) => (made_cell (hf W0).2 b o hb).2
  have hfs := fun (W0 : World) => turned_size (hf W0).2
  have HF : Hid (∀ W0 : World, (f W0).ownsMap Ybad.prog 9 (rdGrp (w.heap.size + 1 + 1 + 1)) W0.heap.size 1 ((DataW.map []).put (.string name.data.toList) (.lit (.bool true))) ∧ (W0.alloc (.map #[] 0)).mapTurned (f W0) W0.heap.size) := hf
  clear hf
  go_enter Ybad.func3, Ybad.ntmps3
  go_wp2_with fail
  refine (new_any _).mono ?_
  rintro e w1 ⟨rfl, rfl⟩
  go_wp2_with fail
  clear hst hfc hff hfs
  refine (named_last (w := w) (R := w.heap.size) (C := w.heap.size + 1 + 1) (G := w.heap.size + 1 + 1 + 1) (ev := .iface 119 (.pointer (some x))) (D := (DataW.map []).put (.string name.data.toList) (.lit (.bool true))) (name := name) (room := room) (shed := shed) (M := w.heap.size + 1 + 1 + 1 + 1) ?_ (by omega) (by omega) (by omega) (by omega) (by omega) (by omega) (by omega) (by omega) (by omega) (by omega) (by omega) (by omega) (by omega) (by omega) hs hn hsz).mono ?_
  · refine st0_of (f := f) (ev := .iface 119 (.pointer (some x))) (by go_simp) (HF.out _).2 (HF.out _).1 ?_ ?_ ?_ ?_ (by omega) (by omega) (by omega) hp (by omega) (by omega) (by omega) ?_ ?_ ⟨.map none, ?_⟩ ?_ ⟨.pointer none, ?_⟩ ⟨.pointer none, ?_⟩ ?_ ⟨.int .i64 0, ?_⟩ ?_ ?_ ?_ ?_ ?_ ?_ ?_ ?_ ?_
    · exact below4 w _ _ _ _
    all_goals go_simp
  · rintro e w2 ⟨rfl, st2⟩
    go_wp2_with fail
    refine (try_free ⟨w.heap.size, 0, none⟩ _ st2.lock st2.lockz).mono ?_
    rintro e w3 ⟨rfl, rfl⟩
    go_wp2_with fail
    refine (unlock_held Ybad.muLib ⟨w.heap.size, 0, none⟩ _ (same_cell st2.lock) (by simp [st2.lockz])).mono ?_
    rintro e w4 ⟨rfl, rfl⟩
    have st4 := st2.relock (by omega) (by omega) (by omega) (by omega) (by omega)
    clear st2
    generalize (w2.setCell ⟨w.heap.size, 0, none⟩ (.int .i32 1)).setCell ⟨w.heap.size, 0, none⟩ (.int .i32 0) = w5 at st4 ⊢
    have a1 := st4.rsize
    have a2 := st4.rmap
    have a3 := st4.csize
    have a4 := st4.cc
    have a5 := st4.cg
    have a6 := st4.cshed
    have a7 := st4.gsize
    have a8 := st4.sent
    obtain ⟨v9, a9⟩ := look_ok hsz st4.own (has_del _)
    go_wp2_with fail
    go_ret
    exact ⟨rfl, st4.bel⟩

end Go.Proofs.YbulkdcoiDoor
