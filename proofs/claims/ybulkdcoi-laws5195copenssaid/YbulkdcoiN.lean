/-
  newInboundPlaces AND zzs5195cname.
-/
import Derived.Test.YbulkdcoiO3
namespace Go.Proofs.Ybulkdcoi
open Go.RowKit
set_option linter.unusedVariables false

/-- The name that a number picks. -/
def nmOf (x : Int) : ByteArray := if x % 6 = 1 then ⟨#[97]⟩ else if x % 6 = 2 then ⟨#[98]⟩ else if x % 6 = 3 then ⟨#[99]⟩ else if x % 6 = 5 then ⟨#[100]⟩ else ⟨#[]⟩

set_option maxRecDepth 100000 in
theorem name_walk (x : Int) (W : World) (h0 : 0 ≤ x) (h1 : x ≤ 255) : Calls Yba.prog 10 #[.int .u8 x] W fun e w' => e = .returned (.string (nmOf x)) ∧ w' = W := by
  have hr : x.tmod 6 = x % 6 := Int.tmod_eq_emod_of_nonneg h0
  by_cases a1 : x % 6 = 1
  · have : nmOf x = ⟨#[97]⟩ := by simp [nmOf, a1]
    rw [this]
    go_enter Yba.func10, Yba.ntmps10
    go_wp2
    go_ret
    exact ⟨rfl, rfl⟩
  · by_cases a2 : x % 6 = 2
    · have : nmOf x = ⟨#[98]⟩ := by simp [nmOf, a2]
      rw [this]
      go_enter Yba.func10, Yba.ntmps10
      go_wp2
      go_ret
      exact ⟨rfl, rfl⟩
    · by_cases a3 : x % 6 = 3
      · have : nmOf x = ⟨#[99]⟩ := by simp [nmOf, a3]
        rw [this]
        go_enter Yba.func10, Yba.ntmps10
        go_wp2
        go_ret
        exact ⟨rfl, rfl⟩
      · by_cases a5 : x % 6 = 5
        · have : nmOf x = ⟨#[100]⟩ := by simp [nmOf, a5]
          rw [this]
          go_enter Yba.func10, Yba.ntmps10
          go_wp2
          go_ret
          exact ⟨rfl, rfl⟩
        · have : nmOf x = ⟨#[]⟩ := by simp [nmOf, a1, a2, a3, a5]
          rw [this]
          go_enter Yba.func10, Yba.ntmps10
          go_wp2
          go_ret
          exact ⟨rfl, rfl⟩

abbrev plCells (m K : Nat) : Array Value := #[.int .i64 0, .int .i64 K, .int .i64 0, .map (some m), .slice none 0 0, .int .u64 0, .map none, .slice none 0 0, .int .u64 0]

set_option maxRecDepth 100000 in
theorem new_walk (x : Int) (W : World) : Calls Yba.prog 9 #[.int .i64 x] W fun e w' => e = .returned (ptr (W.heap.size + 1) 0) ∧ w' = (W.alloc (.map #[] 0)).alloc (.cells (plCells W.heap.size x.toNat) 129) := by
  have hmm := @run_makeMap Yba.prog
  by_cases hx : 0 ≤ x
  · have h1 : max x 0 = x := by omega
    have h2 : ((x.toNat : Nat) : Int) = x := by omega
    go_enter Yba.func9, Yba.ntmps9
    go_wp2
    go_ret
    exact ⟨rfl, by rw [plCells, h2]⟩
  · have h1 : max x 0 = 0 := by omega
    have h2 : ((x.toNat : Nat) : Int) = 0 := by omega
    go_enter Yba.func9, Yba.ntmps9
    go_wp2
    go_ret
    exact ⟨rfl, by rw [plCells, h2]⟩
end Go.Proofs.Ybulkdcoi
