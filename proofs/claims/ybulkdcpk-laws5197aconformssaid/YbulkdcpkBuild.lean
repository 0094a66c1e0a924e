/-
  THE WALK OF 'zzs5197abuild', one theorem a remainder of the tag: which dynamic type, which word; nothing that was there turns.
-/
import Derived.Test.YbulkdcpkRows
import Derived.WalkKit
import Derived.WalkSpells
import Derived.WalkLawsBesides
import Derived.Maps.Own
namespace Go.Proofs.Ybulkdcpk
open Go.RowKit

/-- A map that was just made, with one entry stored under a string. -/
theorem stored (t e : TypeId) (ht : Yba.prog.underlying t = some (.map 9 e)) (s : ByteArray) (hs : s.size ≤ maxLen) (x : Value) (w : World) :
    ∃ w1, (Instr.mapUpdate t (.map (some w.heap.size)) (.string s) x).run Yba.prog (w.alloc (.map #[] 0)) = .ok () w1 ∧ Below w.heap.size w w1 := by
  obtain ⟨w1, h1, _, h3⟩ := (World.ownsMap_made (H := Unit) w Yba.prog 9 (fun _ => some (.lit (.bool true), []))).update (Maps.string_keyed Yba.underlying9) ht (by unfold maxLen; omega) (key := .string s) (kl := .string s.data.toList) (val := x) (d := .lit (.bool true)) (ps := []) (by simp [keyOf, mapKey, Yba.underlying9, hs]) rfl
  exact ⟨w1, h1, ((Below.refl _ _).alloc (Nat.le_refl _) _).grown h3 (by simp) (fun k hk => by cases hk; exact Nat.le_refl _)⟩

/-- 'float32(f)': some bits; the tape may be asked (a NaN; a number too great). -/
theorem narrowed (f : Nat) (w : World) : ∃ r w1, (convert 22 38 (.float .f64 f)).run Yba.prog w = .ok (.float .f32 r) w1 ∧ Below w.heap.size w w1 := by
  have ne : ¬ FloatKind.f64 = FloatKind.f32 := by decide
  cases hd : FloatKind.f64.decode f with
  | nan s m =>
    by_cases hf : (Question.nanConv FloatKind.f32 f).forced = true
    · exact ⟨0, w, by simp [convert, run_underlying Yba.underlying22, run_underlying Yba.underlying38, Conv.floatToFloat, ne, hd, hf], Below.refl _ _⟩
    · exact ⟨_, w.drew, by simp [convert, run_underlying Yba.underlying22, run_underlying Yba.underlying38, Conv.floatToFloat, ne, hd, hf]; rfl, (Below.refl _ _).drew⟩
  | infinity s => exact ⟨FloatKind.f32.encode (.infinity s), w, by simp [convert, run_underlying Yba.underlying22, run_underlying Yba.underlying38, Conv.floatToFloat, ne, hd], Below.refl _ _⟩
  | number s m e =>
    by_cases hi : (FloatKind.f32.decode (FloatKind.f32.encode (.number s m e))).isInfinity = true
    · by_cases hf : (Question.floatToFloat f).forced = true
      · exact ⟨0, w, by simp [convert, run_underlying Yba.underlying22, run_underlying Yba.underlying38, Conv.floatToFloat, ne, hd, hi, hf], Below.refl _ _⟩
      · exact ⟨_, w.drew, by simp [convert, run_underlying Yba.underlying22, run_underlying Yba.underlying38, Conv.floatToFloat, ne, hd, hi, hf]; rfl, (Below.refl _ _).drew⟩
    · exact ⟨FloatKind.f32.encode (.number s m e), w, by simp [convert, run_underlying Yba.underlying22, run_underlying Yba.underlying38, Conv.floatToFloat, ne, hd, hi], Below.refl _ _⟩

set_option maxHeartbeats 400000 in
theorem b_0 (tag : Int) (s : ByteArray) (hs : s.size ≤ maxLen) (f : Nat) (b : Bool) (w : World) (h0 : 0 ≤ tag) (h1 : tag ≤ 255) (hk : tag % 15 = 0) :
    Calls Yba.prog 5 #[.int .u8 tag, .string s, .float .f64 f, .bool b] w fun e w' => ∃ v, e = .returned (.tuple #[.iface 29 v, .string { data := #[111, 98, 106, 101, 99, 116] }]) ∧ Below w.heap.size w w' := by
  have hmm := @run_makeMap Yba.prog
  obtain ⟨w1, hst, hb⟩ := stored 29 20 Yba.underlying29 s hs (.iface 22 (.float .f64 f)) w
  go_enter Yba.func5, Yba.ntmps5
  go_wp2
  go_ret2
  exact ⟨_, rfl, hb⟩

set_option maxHeartbeats 400000 in
theorem b_1 (tag : Int) (s : ByteArray) (_hs : s.size ≤ maxLen) (f : Nat) (b : Bool) (w : World) (h0 : 0 ≤ tag) (h1 : tag ≤ 255) (hk : tag % 15 = 1) :
    Calls Yba.prog 5 #[.int .u8 tag, .string s, .float .f64 f, .bool b] w fun e w' => ∃ v, e = .returned (.tuple #[.iface 29 v, .string { data := #[111, 98, 106, 101, 99, 116] }]) ∧ Below w.heap.size w w' := by
  go_enter Yba.func5, Yba.ntmps5
  go_wp2
  go_ret2
  exact ⟨_, rfl, Below.refl _ _⟩

set_option maxHeartbeats 400000 in
theorem b_2 (tag : Int) (s : ByteArray) (_hs : s.size ≤ maxLen) (f : Nat) (b : Bool) (w : World) (h0 : 0 ≤ tag) (h1 : tag ≤ 255) (hk : tag % 15 = 2) :
    Calls Yba.prog 5 #[.int .u8 tag, .string s, .float .f64 f, .bool b] w fun e w' => ∃ v, e = .returned (.tuple #[.iface 30 v, .string { data := #[111, 98, 106, 101, 99, 116] }]) ∧ Below w.heap.size w w' := by
  go_enter Yba.func5, Yba.ntmps5
  go_wp2
  go_ret2
  exact ⟨_, rfl, ((Below.refl _ _).alloc (Nat.le_refl _) _).alloc (by simp) _⟩

set_option maxHeartbeats 400000 in
theorem b_3 (tag : Int) (s : ByteArray) (_hs : s.size ≤ maxLen) (f : Nat) (b : Bool) (w : World) (h0 : 0 ≤ tag) (h1 : tag ≤ 255) (hk : tag % 15 = 3) :
    Calls Yba.prog 5 #[.int .u8 tag, .string s, .float .f64 f, .bool b] w fun e w' => ∃ v, e = .returned (.tuple #[.iface 30 v, .string { data := #[111, 98, 106, 101, 99, 116] }]) ∧ Below w.heap.size w w' := by
  go_enter Yba.func5, Yba.ntmps5
  go_wp2
  go_ret2
  exact ⟨_, rfl, Below.refl _ _⟩

set_option maxHeartbeats 400000 in
theorem b_4 (tag : Int) (s : ByteArray) (_hs : s.size ≤ maxLen) (f : Nat) (b : Bool) (w : World) (h0 : 0 ≤ tag) (h1 : tag ≤ 255) (hk : tag % 15 = 4) :
    Calls Yba.prog 5 #[.int .u8 tag, .string s, .float .f64 f, .bool b] w fun e w' => ∃ v, e = .returned (.tuple #[.iface 36 v, .string { data := #[97, 114, 114, 97, 121] }]) ∧ Below w.heap.size w w' := by
  go_enter Yba.func5, Yba.ntmps5
  go_wp2
  go_ret2
  exact ⟨_, rfl, (Below.refl _ _).alloc (Nat.le_refl _) _⟩

set_option maxHeartbeats 400000 in
theorem b_5 (tag : Int) (s : ByteArray) (_hs : s.size ≤ maxLen) (f : Nat) (b : Bool) (w : World) (h0 : 0 ≤ tag) (h1 : tag ≤ 255) (hk : tag % 15 = 5) :
    Calls Yba.prog 5 #[.int .u8 tag, .string s, .float .f64 f, .bool b] w fun e w' => ∃ v, e = .returned (.tuple #[.iface 36 v, .string { data := #[97, 114, 114, 97, 121] }]) ∧ Below w.heap.size w w' := by
  go_enter Yba.func5, Yba.ntmps5
  go_wp2
  go_ret2
  exact ⟨_, rfl, Below.refl _ _⟩

set_option maxHeartbeats 400000 in
theorem b_6 (tag : Int) (s : ByteArray) (_hs : s.size ≤ maxLen) (f : Nat) (b : Bool) (w : World) (h0 : 0 ≤ tag) (h1 : tag ≤ 255) (hk : tag % 15 = 6) :
    Calls Yba.prog 5 #[.int .u8 tag, .string s, .float .f64 f, .bool b] w fun e w' => ∃ v, e = .returned (.tuple #[.iface 9 v, .string { data := #[115, 116, 114, 105, 110, 103] }]) ∧ Below w.heap.size w w' := by
  go_enter Yba.func5, Yba.ntmps5
  go_wp2
  go_ret2
  exact ⟨_, rfl, Below.refl _ _⟩

set_option maxHeartbeats 400000 in
theorem b_7 (tag : Int) (s : ByteArray) (_hs : s.size ≤ maxLen) (f : Nat) (b : Bool) (w : World) (h0 : 0 ≤ tag) (h1 : tag ≤ 255) (hk : tag % 15 = 7) :
    Calls Yba.prog 5 #[.int .u8 tag, .string s, .float .f64 f, .bool b] w fun e w' => ∃ v, e = .returned (.tuple #[.iface 37 v, .string { data := #[110, 117, 109, 98, 101, 114] }]) ∧ Below w.heap.size w w' := by
  go_enter Yba.func5, Yba.ntmps5
  go_wp2
  go_ret2
  exact ⟨_, rfl, Below.refl _ _⟩

set_option maxHeartbeats 400000 in
theorem b_8 (tag : Int) (s : ByteArray) (_hs : s.size ≤ maxLen) (f : Nat) (b : Bool) (w : World) (h0 : 0 ≤ tag) (h1 : tag ≤ 255) (hk : tag % 15 = 8) :
    Calls Yba.prog 5 #[.int .u8 tag, .string s, .float .f64 f, .bool b] w fun e w' => ∃ v, e = .returned (.tuple #[.iface 22 v, .string { data := #[110, 117, 109, 98, 101, 114] }]) ∧ Below w.heap.size w w' := by
  go_enter Yba.func5, Yba.ntmps5
  go_wp2
  go_ret2
  exact ⟨_, rfl, Below.refl _ _⟩

set_option maxHeartbeats 400000 in
theorem b_9 (tag : Int) (s : ByteArray) (_hs : s.size ≤ maxLen) (f : Nat) (b : Bool) (w : World) (h0 : 0 ≤ tag) (h1 : tag ≤ 255) (hk : tag % 15 = 9) :
    Calls Yba.prog 5 #[.int .u8 tag, .string s, .float .f64 f, .bool b] w fun e w' => ∃ v, e = .returned (.tuple #[.iface 4 v, .string { data := #[98, 111, 111, 108, 101, 97, 110] }]) ∧ Below w.heap.size w w' := by
  go_enter Yba.func5, Yba.ntmps5
  go_wp2
  go_ret2
  exact ⟨_, rfl, Below.refl _ _⟩

set_option maxHeartbeats 400000 in
theorem b_10 (tag : Int) (s : ByteArray) (_hs : s.size ≤ maxLen) (f : Nat) (b : Bool) (w : World) (h0 : 0 ≤ tag) (h1 : tag ≤ 255) (hk : tag % 15 = 10) :
    Calls Yba.prog 5 #[.int .u8 tag, .string s, .float .f64 f, .bool b] w fun e w' => e = .returned (.tuple #[.nilIface, .string { data := #[110, 117, 108, 108] }]) ∧ Below w.heap.size w w' := by
  go_enter Yba.func5, Yba.ntmps5
  go_wp2
  go_ret2
  exact ⟨rfl, Below.refl _ _⟩

set_option maxHeartbeats 400000 in
theorem b_11 (tag : Int) (s : ByteArray) (_hs : s.size ≤ maxLen) (f : Nat) (b : Bool) (w : World) (h0 : 0 ≤ tag) (h1 : tag ≤ 255) (hk : tag % 15 = 11) :
    Calls Yba.prog 5 #[.int .u8 tag, .string s, .float .f64 f, .bool b] w fun e w' => ∃ v, e = .returned (.tuple #[.iface 3 v, .string { data := #[110, 117, 108, 108] }]) ∧ Below w.heap.size w w' := by
  go_enter Yba.func5, Yba.ntmps5
  go_wp2
  go_ret2
  exact ⟨_, rfl, Below.refl _ _⟩

set_option maxHeartbeats 400000 in
theorem b_12 (tag : Int) (s : ByteArray) (_hs : s.size ≤ maxLen) (f : Nat) (b : Bool) (w : World) (h0 : 0 ≤ tag) (h1 : tag ≤ 255) (hk : tag % 15 = 12) :
    Calls Yba.prog 5 #[.int .u8 tag, .string s, .float .f64 f, .bool b] w fun e w' => ∃ v, e = .returned (.tuple #[.iface 38 v, .string { data := #[110, 117, 108, 108] }]) ∧ Below w.heap.size w w' := by
  obtain ⟨r, w1, hcv, hb⟩ := narrowed f w
  go_enter Yba.func5, Yba.ntmps5
  go_wp2
  go_ret2
  exact ⟨_, rfl, hb⟩

set_option maxHeartbeats 400000 in
theorem b_13 (tag : Int) (s : ByteArray) (hs : s.size ≤ maxLen) (f : Nat) (b : Bool) (w : World) (h0 : 0 ≤ tag) (h1 : tag ≤ 255) (hk : tag % 15 = 13) :
    Calls Yba.prog 5 #[.int .u8 tag, .string s, .float .f64 f, .bool b] w fun e w' => ∃ v, e = .returned (.tuple #[.iface 39 v, .string { data := #[110, 117, 108, 108] }]) ∧ Below w.heap.size w w' := by
  have hmm := @run_makeMap Yba.prog
  obtain ⟨w1, hst, hb⟩ := stored 39 9 Yba.underlying39 s hs (.string s) w
  go_enter Yba.func5, Yba.ntmps5
  go_wp2
  go_ret2
  exact ⟨_, rfl, hb⟩

set_option maxHeartbeats 400000 in
theorem b_14 (tag : Int) (s : ByteArray) (_hs : s.size ≤ maxLen) (f : Nat) (b : Bool) (w : World) (h0 : 0 ≤ tag) (h1 : tag ≤ 255) (hk : tag % 15 = 14) :
    Calls Yba.prog 5 #[.int .u8 tag, .string s, .float .f64 f, .bool b] w fun e w' => ∃ v, e = .returned (.tuple #[.iface 40 v, .string { data := #[110, 117, 108, 108] }]) ∧ Below w.heap.size w w' := by
  go_enter Yba.func5, Yba.ntmps5
  go_wp2
  go_ret2
  exact ⟨_, rfl, (Below.refl _ _).alloc (Nat.le_refl _) _⟩

end Go.Proofs.Ybulkdcpk
