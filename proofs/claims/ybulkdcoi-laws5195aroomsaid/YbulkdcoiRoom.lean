/-
  LawS5195ARoom's WALK.
-/
import Derived.Test.YbulkdcoiFin
namespace Go.Proofs.Ybulkdcoi
open Go.RowKit Go.Sort Go.Shelf Go.Lib
set_option linter.unusedVariables false

set_option maxRecDepth 100000 in
set_option maxHeartbeats 1000000 in
theorem room_walk (a0 a1 : Option Addr) (b off N cap0 b1 off1 n1 cap1 ex ps : Nat) (z : Nat → Int) (x : Nat → Nat) (w : World) (hex : ex ≤ 255) (hps : ps ≤ 255)
    (hs : 0 < N → a0 = some ⟨b, off, none⟩) (hc : ∀ i, i < N → w.cell? ⟨b, off + i, none⟩ = some (.int .i8 (z i))) (hz : ∀ i, -128 ≤ z i ∧ z i ≤ 127)
    (hs1 : 0 < n1 → a1 = some ⟨b1, off1, none⟩) (hc1 : ∀ i, i < n1 → w.cell? ⟨b1, off1 + i, none⟩ = some (.int .u8 ((x i : Nat) : Int))) (hx : ∀ i, x i ≤ 255) :
    Calls Yba.prog 4 #[.slice a0 N cap0, .slice a1 n1 cap1, .int .u8 (ex : Int), .int .u8 (ps : Int)] w fun e w' => e = .returned (.bool true) ∧ Below w.heap.size w w' := by
  by_cases hN : N ≤ 1024
  · by_cases hn1 : n1 ≤ 1024
    · obtain ⟨l, K, n, k, c, M, hk, hcc, hM, hkc, h6⟩ := three_calls a0 a1 b off N cap0 b1 off1 n1 cap1 ex ps z x w hN hn1 hex hps hs hc hz hs1 hc1 hx
      have hc3 : c ≤ 2000 := by omega
      have HM : Hid (M = wantCap c k) := hM
      clear hs hc hz hs1 hc1 hx hM hk hcc
      go_enter Yba.func4, Yba.ntmps4
      go_wp2_with fail
      refine h6.mono ?_
      rintro e W ⟨OB, rfl, h7⟩
      clear h6
      go_wp2_with fail
      refine h7.mono ?_
      rintro e w2 ⟨g, rfl, h8⟩
      clear h7
      go_wp2_with fail
      refine h8.mono ?_
      rintro e w3 ⟨ao, g', cap', rfl, ha, hF⟩
      have HB : Hid (Below w.heap.size w w3) := hF.bel
      clear h8 ha hF
      by_cases hA : 2 * k > c
      · by_cases hB : 2 * c < 16
        · obtain rfl : M = 16 := by rw [HM.out]; unfold wantCap; rw [if_pos hA, if_pos hB]
          go_wp2
          go_ret
          exact ⟨congrArg (fun b => Ending.returned (Value.bool b)) (decide_eq_true (by omega)), HB.out⟩
        · obtain rfl : M = 2 * c := by rw [HM.out]; unfold wantCap; rw [if_pos hA, if_neg hB]
          go_wp2
          go_ret
          exact ⟨congrArg (fun b => Ending.returned (Value.bool b)) (decide_eq_true (by omega)), HB.out⟩
      · by_cases hC : c > 4 * k + 64
        · obtain rfl : M = 2 * k + 32 := by rw [HM.out]; unfold wantCap; rw [if_neg hA, if_pos hC]
          go_wp2
          go_ret
          exact ⟨congrArg (fun b => Ending.returned (Value.bool b)) (decide_eq_true (by omega)), HB.out⟩
        · obtain rfl : M = c := by rw [HM.out]; unfold wantCap; rw [if_neg hA, if_neg hC]
          go_wp2
          go_ret
          exact ⟨congrArg (fun b => Ending.returned (Value.bool b)) (decide_eq_true (by omega)), HB.out⟩
    · go_enter Yba.func4, Yba.ntmps4
      go_wp2
      go_ret
      exact ⟨rfl, Below.refl _ _⟩
  · go_enter Yba.func4, Yba.ntmps4
    go_wp2
    go_ret
    exact ⟨rfl, Below.refl _ _⟩
end Go.Proofs.Ybulkdcoi
