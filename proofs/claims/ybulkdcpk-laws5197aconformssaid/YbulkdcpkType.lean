/-
  THE LAW 'LawS5197AType': the builder's contract in one, and the law's own walk.
-/
import Derived.Test.YbulkdcpkJt
import Derived.Test.YbulkdcpkBuild
namespace Go.Proofs.Ybulkdcpk
open Go.RowKit

/-- THE SIX WORDS. -/
def wObject : ByteArray := { data := #[111, 98, 106, 101, 99, 116] }
def wArray : ByteArray := { data := #[97, 114, 114, 97, 121] }
def wString : ByteArray := { data := #[115, 116, 114, 105, 110, 103] }
def wNumber : ByteArray := { data := #[110, 117, 109, 98, 101, 114] }
def wBoolean : ByteArray := { data := #[98, 111, 111, 108, 101, 97, 110] }
def wNull : ByteArray := { data := #[110, 117, 108, 108] }
def Word (s : ByteArray) : Prop := s = wObject ∨ s = wArray ∨ s = wString ∨ s = wNumber ∨ s = wBoolean ∨ s = wNull

/-- 'jsonType' names v by the word s, in whatever world, and turns nothing. -/
def Named (v : Value) (s : ByteArray) : Prop := ∀ w : World, Calls Yba.prog 6 #[v] w fun e w' => e = .returned (.string s) ∧ w' = w

theorem build_any (tag : Int) (s : ByteArray) (hs : s.size ≤ maxLen) (f : Nat) (b : Bool) (w : World) (h0 : 0 ≤ tag) (h1 : tag ≤ 255) :
    Calls Yba.prog 5 #[.int .u8 tag, .string s, .float .f64 f, .bool b] w fun e w' => ∃ v k, e = .returned (.tuple #[v, .string k]) ∧ Named v k ∧ Word k ∧ Below w.heap.size w w' := by
  have hm : tag % 15 = 0 ∨ tag % 15 = 1 ∨ tag % 15 = 2 ∨ tag % 15 = 3 ∨ tag % 15 = 4 ∨ tag % 15 = 5 ∨ tag % 15 = 6 ∨ tag % 15 = 7 ∨ tag % 15 = 8 ∨ tag % 15 = 9 ∨ tag % 15 = 10 ∨ tag % 15 = 11 ∨ tag % 15 = 12 ∨ tag % 15 = 13 ∨ tag % 15 = 14 := by omega
  rcases hm with hk | hk | hk | hk | hk | hk | hk | hk | hk | hk | hk | hk | hk | hk | hk
  · exact (b_0 tag s hs f b w h0 h1 hk).mono fun e w' ⟨v, he, hb⟩ => ⟨_, _, he, jt_29 v, .inl rfl, hb⟩
  · exact (b_1 tag s hs f b w h0 h1 hk).mono fun e w' ⟨v, he, hb⟩ => ⟨_, _, he, jt_29 v, .inl rfl, hb⟩
  · exact (b_2 tag s hs f b w h0 h1 hk).mono fun e w' ⟨v, he, hb⟩ => ⟨_, _, he, jt_30 v, .inl rfl, hb⟩
  · exact (b_3 tag s hs f b w h0 h1 hk).mono fun e w' ⟨v, he, hb⟩ => ⟨_, _, he, jt_30 v, .inl rfl, hb⟩
  · exact (b_4 tag s hs f b w h0 h1 hk).mono fun e w' ⟨v, he, hb⟩ => ⟨_, _, he, jt_36 v, .inr (.inl rfl), hb⟩
  · exact (b_5 tag s hs f b w h0 h1 hk).mono fun e w' ⟨v, he, hb⟩ => ⟨_, _, he, jt_36 v, .inr (.inl rfl), hb⟩
  · exact (b_6 tag s hs f b w h0 h1 hk).mono fun e w' ⟨v, he, hb⟩ => ⟨_, _, he, jt_9 v, .inr (.inr (.inl rfl)), hb⟩
  · exact (b_7 tag s hs f b w h0 h1 hk).mono fun e w' ⟨v, he, hb⟩ => ⟨_, _, he, jt_37 v, .inr (.inr (.inr (.inl rfl))), hb⟩
  · exact (b_8 tag s hs f b w h0 h1 hk).mono fun e w' ⟨v, he, hb⟩ => ⟨_, _, he, jt_22 v, .inr (.inr (.inr (.inl rfl))), hb⟩
  · exact (b_9 tag s hs f b w h0 h1 hk).mono fun e w' ⟨v, he, hb⟩ => ⟨_, _, he, jt_4 v, .inr (.inr (.inr (.inr (.inl rfl)))), hb⟩
  · exact (b_10 tag s hs f b w h0 h1 hk).mono fun e w' ⟨he, hb⟩ => ⟨_, _, he, jt_n, .inr (.inr (.inr (.inr (.inr rfl)))), hb⟩
  · exact (b_11 tag s hs f b w h0 h1 hk).mono fun e w' ⟨v, he, hb⟩ => ⟨_, _, he, jt_3 v, .inr (.inr (.inr (.inr (.inr rfl)))), hb⟩
  · exact (b_12 tag s hs f b w h0 h1 hk).mono fun e w' ⟨v, he, hb⟩ => ⟨_, _, he, jt_38 v, .inr (.inr (.inr (.inr (.inr rfl)))), hb⟩
  · exact (b_13 tag s hs f b w h0 h1 hk).mono fun e w' ⟨v, he, hb⟩ => ⟨_, _, he, jt_39 v, .inr (.inr (.inr (.inr (.inr rfl)))), hb⟩
  · exact (b_14 tag s hs f b w h0 h1 hk).mono fun e w' ⟨v, he, hb⟩ => ⟨_, _, he, jt_40 v, .inr (.inr (.inr (.inr (.inr rfl)))), hb⟩

set_option maxHeartbeats 400000 in
theorem type_walk (tag : Int) (s : ByteArray) (hs : s.size ≤ maxLen) (f : Nat) (b : Bool) (w : World) (h0 : 0 ≤ tag) (h1 : tag ≤ 255) :
    Calls Yba.prog 3 #[.int .u8 tag, .string s, .float .f64 f, .bool b] w fun e w' => e = .returned (.bool true) ∧ Below w.heap.size w w' := by
  go_enter Yba.func3, Yba.ntmps3
  go_wp2_with fail
  refine (build_any tag s hs f b _ h0 h1).mono ?_
  rintro e w1 ⟨v, k, rfl, hv, hk, hb⟩
  clear hk
  go_wp2_with fail
  refine (hv _).mono ?_
  rintro e w2 ⟨rfl, rfl⟩
  go_wp2
  go_ret
  exact ⟨rfl, hb⟩
end Go.Proofs.Ybulkdcpk
