/-
  container/list, as the law's road comes to it: PushBack, Remove of the only element, Front, Len.
-/
import Derived.Test.YbulkdcoiM
namespace Go.Proofs.Ybulkdcoi
open Go.RowKit
set_option linter.unusedVariables false

abbrev ptr (b o : Nat) : Value := .pointer (some ⟨b, o, none⟩)

set_option maxRecDepth 100000 in
set_option maxHeartbeats 1000000 in
theorem insert_far (lb lo ab eb : Nat) (n : Int) (e2 e0 e1 : Value) (W : World) (hn : 0 ≤ n) (hn2 : n ≤ 100000) (hel : eb ≠ lb) (hea : eb ≠ ab) (hd : ab ≠ lb)
    (h0 : W.cell? ⟨ab, 0, none⟩ = some (ptr lb lo)) (h1 : W.cell? ⟨lb, lo + 1, none⟩ = some (ptr ab 0)) (h4 : W.cell? ⟨lb, lo + 4, none⟩ = some (.int .i64 n))
    (c0 : W.cell? ⟨eb, 0, none⟩ = some e0) (c1 : W.cell? ⟨eb, 1, none⟩ = some e1) (c2 : W.cell? ⟨eb, 2, none⟩ = some e2)
    (z0 : W.frozen? ⟨ab, 0, none⟩ = false) (z1 : W.frozen? ⟨lb, lo + 1, none⟩ = false) (z4 : W.frozen? ⟨lb, lo + 4, none⟩ = false) (f0 : W.frozen? ⟨eb, 0, none⟩ = false) (f1 : W.frozen? ⟨eb, 1, none⟩ = false) (f2 : W.frozen? ⟨eb, 2, none⟩ = false) :
    Calls Yba.prog 49 #[ptr lb lo, ptr eb 0, ptr ab 0] W fun e w' => e = .returned (ptr eb 0) ∧
      w' = (((((W.setCell ⟨eb, 1, none⟩ (ptr ab 0)).setCell ⟨eb, 0, none⟩ (ptr lb lo)).setCell ⟨ab, 0, none⟩ (ptr eb 0)).setCell ⟨lb, lo + 1, none⟩ (ptr eb 0)).setCell ⟨eb, 2, none⟩ (ptr lb lo)).setCell ⟨lb, lo + 4, none⟩ (.int .i64 (n + 1)) := by
  go_enter Yba.func49, Yba.ntmps49
  go_wp2
  go_ret
  exact ⟨rfl, rfl⟩

set_option maxRecDepth 100000 in
set_option maxHeartbeats 1000000 in
theorem insert_root (lb lo eb : Nat) (n : Int) (e2 e0 e1 : Value) (W : World) (hn : 0 ≤ n) (hn2 : n ≤ 100000) (hel : eb ≠ lb)
    (h0 : W.cell? ⟨lb, lo, none⟩ = some (ptr lb lo)) (h1 : W.cell? ⟨lb, lo + 1, none⟩ = some (ptr lb lo)) (h4 : W.cell? ⟨lb, lo + 4, none⟩ = some (.int .i64 n))
    (c0 : W.cell? ⟨eb, 0, none⟩ = some e0) (c1 : W.cell? ⟨eb, 1, none⟩ = some e1) (c2 : W.cell? ⟨eb, 2, none⟩ = some e2)
    (z0 : W.frozen? ⟨lb, lo, none⟩ = false) (z1 : W.frozen? ⟨lb, lo + 1, none⟩ = false) (z4 : W.frozen? ⟨lb, lo + 4, none⟩ = false) (f0 : W.frozen? ⟨eb, 0, none⟩ = false) (f1 : W.frozen? ⟨eb, 1, none⟩ = false) (f2 : W.frozen? ⟨eb, 2, none⟩ = false) :
    Calls Yba.prog 49 #[ptr lb lo, ptr eb 0, ptr lb lo] W fun e w' => e = .returned (ptr eb 0) ∧
      w' = (((((W.setCell ⟨eb, 1, none⟩ (ptr lb lo)).setCell ⟨eb, 0, none⟩ (ptr lb lo)).setCell ⟨lb, lo, none⟩ (ptr eb 0)).setCell ⟨lb, lo + 1, none⟩ (ptr eb 0)).setCell ⟨eb, 2, none⟩ (ptr lb lo)).setCell ⟨lb, lo + 4, none⟩ (.int .i64 (n + 1)) := by
  go_enter Yba.func49, Yba.ntmps49
  go_wp2
  go_ret
  exact ⟨rfl, rfl⟩

set_option maxRecDepth 100000 in
theorem lazy_done (lb lo xb xo : Nat) (W : World) (h0 : W.cell? ⟨lb, lo, none⟩ = some (ptr xb xo)) : Calls Yba.prog 29 #[ptr lb lo] W fun e w' => e = .returned (.tuple #[]) ∧ w' = W := by
  go_enter Yba.func29, Yba.ntmps29
  go_wp2
  go_end0
  exact ⟨rfl, rfl⟩

set_option maxRecDepth 100000 in
theorem init_walk (lb lo : Nat) (v0 v1 v4 : Value) (W : World) (h0 : W.cell? ⟨lb, lo, none⟩ = some v0) (h1 : W.cell? ⟨lb, lo + 1, none⟩ = some v1) (h4 : W.cell? ⟨lb, lo + 4, none⟩ = some v4)
    (z0 : W.frozen? ⟨lb, lo, none⟩ = false) (z1 : W.frozen? ⟨lb, lo + 1, none⟩ = false) (z4 : W.frozen? ⟨lb, lo + 4, none⟩ = false) :
    Calls Yba.prog 48 #[ptr lb lo] W fun e w' => e = .returned (ptr lb lo) ∧ w' = ((W.setCell ⟨lb, lo, none⟩ (ptr lb lo)).setCell ⟨lb, lo + 1, none⟩ (ptr lb lo)).setCell ⟨lb, lo + 4, none⟩ (.int .i64 0) := by
  go_enter Yba.func48, Yba.ntmps48
  go_wp2
  go_ret
  exact ⟨rfl, rfl⟩

set_option maxRecDepth 100000 in
theorem lazy_new (lb lo : Nat) (v1 v4 : Value) (W : World) (h0 : W.cell? ⟨lb, lo, none⟩ = some (.pointer none)) (h1 : W.cell? ⟨lb, lo + 1, none⟩ = some v1) (h4 : W.cell? ⟨lb, lo + 4, none⟩ = some v4)
    (z0 : W.frozen? ⟨lb, lo, none⟩ = false) (z1 : W.frozen? ⟨lb, lo + 1, none⟩ = false) (z4 : W.frozen? ⟨lb, lo + 4, none⟩ = false) :
    Calls Yba.prog 29 #[ptr lb lo] W fun e w' => e = .returned (.tuple #[]) ∧ w' = ((W.setCell ⟨lb, lo, none⟩ (ptr lb lo)).setCell ⟨lb, lo + 1, none⟩ (ptr lb lo)).setCell ⟨lb, lo + 4, none⟩ (.int .i64 0) := by
  go_enter Yba.func29, Yba.ntmps29
  go_wp2_with (go_at_call 48; refine (init_walk lb lo _ _ _ W h0 h1 h4 z0 z1 z4).mono ?_; rintro e w' ⟨rfl, rfl⟩)
  go_end0
  exact ⟨rfl, rfl⟩

set_option maxRecDepth 100000 in
theorem len_walk (lb lo : Nat) (n : Int) (W : World) (h4 : W.cell? ⟨lb, lo + 4, none⟩ = some (.int .i64 n)) : Calls Yba.prog 14 #[ptr lb lo] W fun e w' => e = .returned (.int .i64 n) ∧ w' = W := by
  go_enter Yba.func14, Yba.ntmps14
  go_wp2
  go_ret
  exact ⟨rfl, rfl⟩

set_option maxRecDepth 100000 in
theorem front_walk (lb lo : Nat) (n : Int) (v : Value) (W : World) (hn : 0 < n) (h0 : W.cell? ⟨lb, lo, none⟩ = some v) (h4 : W.cell? ⟨lb, lo + 4, none⟩ = some (.int .i64 n)) : Calls Yba.prog 24 #[ptr lb lo] W fun e w' => e = .returned v ∧ w' = W := by
  go_enter Yba.func24, Yba.ntmps24
  go_wp2
  go_ret
  exact ⟨rfl, rfl⟩
end Go.Proofs.Ybulkdcoi
