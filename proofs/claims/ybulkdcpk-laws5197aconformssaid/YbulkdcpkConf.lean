/-
  THE LAW 'LawS5197AConforms': the contract of 'conforms', and the law's walk, one theorem a remainder of ti.
-/
import Derived.Test.YbulkdcpkType
namespace Go.Proofs.Ybulkdcpk
open Go.RowKit

/-- WHAT 'conforms' ANSWERS for the type t and a value that is named k. -/
def confB (t k : ByteArray) : Bool :=
  if (t.toList == [97, 114, 114, 97, 121]) = true then (k.toList == [115, 116, 114, 105, 110, 103] || k.toList == [110, 117, 109, 98, 101, 114]) else k.toList == t.toList

set_option maxHeartbeats 400000 in
theorem conf_any (t : ByteArray) (v : Value) (k : ByteArray) (w : World) (hv : Named v k) :
    Calls Yba.prog 7 #[.string t, v] w fun e w' => e = .returned (.bool (confB t k)) ∧ w' = w := by
  by_cases ht : (t.toList == [97, 114, 114, 97, 121]) = true
  · by_cases hk : k.toList = [115, 116, 114, 105, 110, 103]
    · have hr : Hid (confB t k = true) := by unfold Hid confB; rw [if_pos ht, hk]; rfl
      go_enter Yba.func7, Yba.ntmps7
      go_wp2_with fail
      refine (hv _).mono ?_; rintro e w2 ⟨rfl, rfl⟩; go_wp2_with fail
      rw [hr.out]
      go_ret
      exact ⟨rfl, rfl⟩
    · have hr : Hid (confB t k = (k.toList == [115, 116, 114, 105, 110, 103] || k.toList == [110, 117, 109, 98, 101, 114])) := by unfold Hid confB; rw [if_pos ht]
      go_enter Yba.func7, Yba.ntmps7
      go_wp2_with fail
      refine (hv _).mono ?_; rintro e w2 ⟨rfl, rfl⟩; go_wp2_with fail
      refine (hv _).mono ?_; rintro e w3 ⟨rfl, rfl⟩; go_wp2_with fail
      rw [hr.out]
      go_ret
      exact ⟨rfl, rfl⟩
  · have ht' : (t.toList == [97, 114, 114, 97, 121]) = false := by simpa using ht
    have hr : Hid (confB t k = (k.toList == t.toList)) := by unfold Hid confB; rw [if_neg ht]
    go_enter Yba.func7, Yba.ntmps7
    go_wp2_with fail
    refine (hv _).mono ?_; rintro e w2 ⟨rfl, rfl⟩; go_wp2_with fail
    rw [hr.out]
    go_ret
    exact ⟨rfl, rfl⟩

theorem ret_bool {a b : Bool} (h : a = b) : Ending.returned (.bool a) = .returned (.bool b) := by rw [h]

theorem conf_as {t k : ByteArray} (h : (t.toList == [97, 114, 114, 97, 121]) = true) (hk : k.toList = [115, 116, 114, 105, 110, 103]) : confB t k = true := by
  unfold confB; rw [if_pos h, hk]; rfl
theorem conf_an {t k : ByteArray} (h : (t.toList == [97, 114, 114, 97, 121]) = true) : (confB t k == (k.toList == [115, 116, 114, 105, 110, 103] || k.toList == [110, 117, 109, 98, 101, 114])) = true := by
  unfold confB; rw [if_pos h]; exact beq_self_eq_true _
theorem conf_no {t k : ByteArray} (h : (t.toList == [97, 114, 114, 97, 121]) = false) : (confB t k == (k.toList == t.toList)) = true := by
  unfold confB; rw [if_neg (by rw [h]; decide)]; exact beq_self_eq_true _

theorem toList_mk (a : Array UInt8) : ({ data := a } : ByteArray).toList = a.toList := ByteArray.toList_eq _
theorem conf_noL {t k : ByteArray} {l : List UInt8} (ht : t.toList = l) (h : (l == [97, 114, 114, 97, 121]) = false) : (confB t k == (k.toList == l)) = true := by
  subst ht; exact conf_no h

set_option maxHeartbeats 1000000 in
theorem conforms_walk0 (tag ti : Int) (typ s : ByteArray) (hs : s.size ≤ maxLen) (f : Nat) (b : Bool) (w : World) (h0 : 0 ≤ tag) (h1 : tag ≤ 255) (g0 : 0 ≤ ti) (g1 : ti ≤ 255) (hm : ti % 7 = 0) :
    Calls Yba.prog 4 #[.int .u8 tag, .int .u8 ti, .string typ, .string s, .float .f64 f, .bool b] w fun e w' => e = .returned (.bool true) ∧ Below w.heap.size w w' := by
  go_enter Yba.func4, Yba.ntmps4
  go_wp2_with fail
  refine (build_any tag s hs f b _ h0 h1).mono ?_
  rintro e w1 ⟨v, k, rfl, hv, hk, hb⟩
  clear hk
  go_wp2_with fail
  all_goals (refine (conf_any _ _ k _ hv).mono ?_; rintro e w2 ⟨rfl, rfl⟩)
  all_goals (go_wp2_with fail)
  all_goals go_ret
  all_goals (refine ⟨ret_bool ?_, hb⟩)
  all_goals (exact conf_noL (toList_mk _) rfl)

set_option maxHeartbeats 1000000 in
theorem conforms_walk1 (tag ti : Int) (typ s : ByteArray) (hs : s.size ≤ maxLen) (f : Nat) (b : Bool) (w : World) (h0 : 0 ≤ tag) (h1 : tag ≤ 255) (g0 : 0 ≤ ti) (g1 : ti ≤ 255) (hm : ti % 7 = 1) :
    Calls Yba.prog 4 #[.int .u8 tag, .int .u8 ti, .string typ, .string s, .float .f64 f, .bool b] w fun e w' => e = .returned (.bool true) ∧ Below w.heap.size w w' := by
  go_enter Yba.func4, Yba.ntmps4
  go_wp2_with fail
  refine (build_any tag s hs f b _ h0 h1).mono ?_
  rintro e w1 ⟨v, k, rfl, hv, hk, hb⟩
  clear hk
  go_wp2_with fail
  all_goals (refine (conf_any _ _ k _ hv).mono ?_; rintro e w2 ⟨rfl, rfl⟩)
  all_goals (go_wp2_with fail)
  all_goals go_ret
  all_goals (refine ⟨ret_bool ?_, hb⟩)
  all_goals (first | exact conf_as (by rw [toList_mk]; rfl) ‹_› | exact conf_an (by rw [toList_mk]; rfl))

set_option maxHeartbeats 1000000 in
theorem conforms_walk2 (tag ti : Int) (typ s : ByteArray) (hs : s.size ≤ maxLen) (f : Nat) (b : Bool) (w : World) (h0 : 0 ≤ tag) (h1 : tag ≤ 255) (g0 : 0 ≤ ti) (g1 : ti ≤ 255) (hm : ti % 7 = 2) :
    Calls Yba.prog 4 #[.int .u8 tag, .int .u8 ti, .string typ, .string s, .float .f64 f, .bool b] w fun e w' => e = .returned (.bool true) ∧ Below w.heap.size w w' := by
  go_enter Yba.func4, Yba.ntmps4
  go_wp2_with fail
  refine (build_any tag s hs f b _ h0 h1).mono ?_
  rintro e w1 ⟨v, k, rfl, hv, hk, hb⟩
  clear hk
  go_wp2_with fail
  all_goals (refine (conf_any _ _ k _ hv).mono ?_; rintro e w2 ⟨rfl, rfl⟩)
  all_goals (go_wp2_with fail)
  all_goals go_ret
  all_goals (refine ⟨ret_bool ?_, hb⟩)
  all_goals (exact conf_noL (toList_mk _) rfl)

set_option maxHeartbeats 1000000 in
theorem conforms_walk3 (tag ti : Int) (typ s : ByteArray) (hs : s.size ≤ maxLen) (f : Nat) (b : Bool) (w : World) (h0 : 0 ≤ tag) (h1 : tag ≤ 255) (g0 : 0 ≤ ti) (g1 : ti ≤ 255) (hm : ti % 7 = 3) :
    Calls Yba.prog 4 #[.int .u8 tag, .int .u8 ti, .string typ, .string s, .float .f64 f, .bool b] w fun e w' => e = .returned (.bool true) ∧ Below w.heap.size w w' := by
  go_enter Yba.func4, Yba.ntmps4
  go_wp2_with fail
  refine (build_any tag s hs f b _ h0 h1).mono ?_
  rintro e w1 ⟨v, k, rfl, hv, hk, hb⟩
  clear hk
  go_wp2_with fail
  all_goals (refine (conf_any _ _ k _ hv).mono ?_; rintro e w2 ⟨rfl, rfl⟩)
  all_goals (go_wp2_with fail)
  all_goals go_ret
  all_goals (refine ⟨ret_bool ?_, hb⟩)
  all_goals (exact conf_noL (toList_mk _) rfl)

set_option maxHeartbeats 1000000 in
theorem conforms_walk4 (tag ti : Int) (typ s : ByteArray) (hs : s.size ≤ maxLen) (f : Nat) (b : Bool) (w : World) (h0 : 0 ≤ tag) (h1 : tag ≤ 255) (g0 : 0 ≤ ti) (g1 : ti ≤ 255) (hm : ti % 7 = 4) :
    Calls Yba.prog 4 #[.int .u8 tag, .int .u8 ti, .string typ, .string s, .float .f64 f, .bool b] w fun e w' => e = .returned (.bool true) ∧ Below w.heap.size w w' := by
  go_enter Yba.func4, Yba.ntmps4
  go_wp2_with fail
  refine (build_any tag s hs f b _ h0 h1).mono ?_
  rintro e w1 ⟨v, k, rfl, hv, hk, hb⟩
  clear hk
  go_wp2_with fail
  all_goals (refine (conf_any _ _ k _ hv).mono ?_; rintro e w2 ⟨rfl, rfl⟩)
  all_goals (go_wp2_with fail)
  all_goals go_ret
  all_goals (refine ⟨ret_bool ?_, hb⟩)
  all_goals (exact conf_noL (toList_mk _) rfl)

set_option maxHeartbeats 1000000 in
theorem conforms_walk5 (tag ti : Int) (typ s : ByteArray) (hs : s.size ≤ maxLen) (f : Nat) (b : Bool) (w : World) (h0 : 0 ≤ tag) (h1 : tag ≤ 255) (g0 : 0 ≤ ti) (g1 : ti ≤ 255) (hm : ti % 7 = 5) :
    Calls Yba.prog 4 #[.int .u8 tag, .int .u8 ti, .string typ, .string s, .float .f64 f, .bool b] w fun e w' => e = .returned (.bool true) ∧ Below w.heap.size w w' := by
  go_enter Yba.func4, Yba.ntmps4
  go_wp2_with fail
  refine (build_any tag s hs f b _ h0 h1).mono ?_
  rintro e w1 ⟨v, k, rfl, hv, hk, hb⟩
  clear hk
  go_wp2_with fail
  all_goals (refine (conf_any _ _ k _ hv).mono ?_; rintro e w2 ⟨rfl, rfl⟩)
  all_goals (go_wp2_with fail)
  all_goals go_ret
  all_goals (refine ⟨ret_bool ?_, hb⟩)
  all_goals (exact conf_noL (toList_mk _) rfl)

set_option maxHeartbeats 1000000 in
theorem conforms_walk6 (tag ti : Int) (typ s : ByteArray) (hs : s.size ≤ maxLen) (f : Nat) (b : Bool) (w : World) (h0 : 0 ≤ tag) (h1 : tag ≤ 255) (g0 : 0 ≤ ti) (g1 : ti ≤ 255) (hm : ti % 7 = 6) :
    Calls Yba.prog 4 #[.int .u8 tag, .int .u8 ti, .string typ, .string s, .float .f64 f, .bool b] w fun e w' => e = .returned (.bool true) ∧ Below w.heap.size w w' := by
  go_enter Yba.func4, Yba.ntmps4
  go_wp2_with fail
  refine (build_any tag s hs f b _ h0 h1).mono ?_
  rintro e w1 ⟨v, k, rfl, hv, hk, hb⟩
  clear hk
  go_wp2_with fail
  all_goals (refine (conf_any _ _ k _ hv).mono ?_; rintro e w2 ⟨rfl, rfl⟩)
  all_goals (go_wp2_with fail)
  all_goals go_ret
  all_goals (refine ⟨ret_bool ?_, hb⟩)
  all_goals (first | exact conf_as ‹_› ‹_› | exact conf_an ‹_› | exact conf_no ‹_›)

theorem conforms_walk (tag ti : Int) (typ s : ByteArray) (hs : s.size ≤ maxLen) (f : Nat) (b : Bool) (w : World) (h0 : 0 ≤ tag) (h1 : tag ≤ 255) (g0 : 0 ≤ ti) (g1 : ti ≤ 255) :
    Calls Yba.prog 4 #[.int .u8 tag, .int .u8 ti, .string typ, .string s, .float .f64 f, .bool b] w fun e w' => e = .returned (.bool true) ∧ Below w.heap.size w w' := by
  have hm : ti % 7 = 0 ∨ ti % 7 = 1 ∨ ti % 7 = 2 ∨ ti % 7 = 3 ∨ ti % 7 = 4 ∨ ti % 7 = 5 ∨ ti % 7 = 6 := by omega
  rcases hm with hm | hm | hm | hm | hm | hm | hm
  · exact conforms_walk0 tag ti typ s hs f b w h0 h1 g0 g1 hm
  · exact conforms_walk1 tag ti typ s hs f b w h0 h1 g0 g1 hm
  · exact conforms_walk2 tag ti typ s hs f b w h0 h1 g0 g1 hm
  · exact conforms_walk3 tag ti typ s hs f b w h0 h1 g0 g1 hm
  · exact conforms_walk4 tag ti typ s hs f b w h0 h1 g0 g1 hm
  · exact conforms_walk5 tag ti typ s hs f b w h0 h1 g0 g1 hm
  · exact conforms_walk6 tag ti typ s hs f b w h0 h1 g0 g1 hm
end Go.Proofs.Ybulkdcpk
