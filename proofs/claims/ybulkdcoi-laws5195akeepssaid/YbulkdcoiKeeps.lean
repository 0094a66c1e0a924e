/-
  LawS5195AKeeps's WALK.
-/
import Derived.Test.YbulkdcoiFin
namespace Go.Proofs.Ybulkdcoi
open Go.RowKit Go.Sort Go.Shelf Go.Lib
set_option linter.unusedVariables false

set_option maxRecDepth 100000 in
set_option maxHeartbeats 1000000 in
theorem keeps_walk (a0 a1 : Option Addr) (b off N cap0 b1 off1 n1 cap1 ex ps : Nat) (z : Nat → Int) (x : Nat → Nat) (w : World) (hex : ex ≤ 255) (hps : ps ≤ 255)
    (hs : 0 < N → a0 = some ⟨b, off, none⟩) (hc : ∀ i, i < N → w.cell? ⟨b, off + i, none⟩ = some (.int .i8 (z i))) (hz : ∀ i, -128 ≤ z i ∧ z i ≤ 127)
    (hs1 : 0 < n1 → a1 = some ⟨b1, off1, none⟩) (hc1 : ∀ i, i < n1 → w.cell? ⟨b1, off1 + i, none⟩ = some (.int .u8 ((x i : Nat) : Int))) (hx : ∀ i, x i ≤ 255) :
    Calls Yba.prog 3 #[.slice a0 N cap0, .slice a1 n1 cap1, .int .u8 (ex : Int), .int .u8 (ps : Int)] w fun e w' => e = .returned (.bool true) ∧ Below w.heap.size w w' := by
  by_cases hN : N ≤ 1024
  · by_cases hn1 : n1 ≤ 1024
    · obtain ⟨l, K, n, k, c, M, hk, hcc, hM, hkc, h6⟩ := three_calls a0 a1 b off N cap0 b1 off1 n1 cap1 ex ps z x w hN hn1 hex hps hs hc hz hs1 hc1 hx
      have hc3 : c ≤ 2000 := by omega
      have HS : Hid (0 < N → a0 = some ⟨b, off, none⟩) := hs
      have HZ : Hid (∀ i, -128 ≤ z i ∧ z i ≤ 127) := hz
      have HK : Hid (k = K.length) := hk
      have hkM : k ≤ M := by
        rw [hM]
        unfold wantCap
        split
        · split <;> omega
        · split <;> omega
      clear hs hc hz hs1 hc1 hx hM hk hcc
      go_enter Yba.func3, Yba.ntmps3
      go_wp2_with fail
      refine h6.mono ?_
      rintro e W ⟨OB, rfl, h7⟩
      clear h6
      go_wp2_with fail
      refine h7.mono ?_
      rintro e w2 ⟨g, rfl, h8⟩
      clear h7
      go_wp2_with fail
      refine h8.mono ?_
      rintro e w3 ⟨ao, g', cap', rfl, ha, hF⟩
      have HF : Hid (Fin3 w w3 b off N g g' z K) := hF
      have HA : Hid (0 < k → ao = some ⟨g', 0, none⟩) := ha
      clear h8 ha hF
      go_wp2_with fail
      go_loopw [52] (fun vi wr => ∃ i : Nat, vi = .int .i64 i ∧ i ≤ k ∧ wr.heap = w3.heap ∧ Below w.heap.size w wr) (fun vi _ => k - (intOf vi).toNat)
      case atStart => exact ⟨0, rfl, Nat.zero_le _, rfl, HF.out.bel⟩
      case round =>
        obtain ⟨i, rfl, hi, hh, hbel⟩ := hrel
        have hcell : ∀ a, wr.cell? a = w3.cell? a := fun a => by simp [World.cell?, hh]
        by_cases hlt : i < k
        · obtain rfl := HA.out (by omega)
          have h1 : wr.cell? ⟨g, i, none⟩ = some (.int .i32 ((K.getD i 0 : Nat) : Int)) := (hcell _).trans (HF.out.got i (by rw [← HK.out]; exact hlt))
          have h2 : wr.cell? ⟨g', i, none⟩ = some (.int .i32 ((K.getD i 0 : Nat) : Int)) := (hcell _).trans (HF.out.want i (by rw [← HK.out]; exact hlt))
          have HB : Hid (wr.heap = w3.heap ∧ Below w.heap.size w wr) := ⟨hh, hbel⟩
          generalize ((K.getD i 0 : Nat) : Int) = y at h1 h2
          clear hh hbel hcell
          go_wp2_with fail
          go_region
          all_goals go_wp2
          go_roundw
          case rel => exact ⟨i + 1, by go_num, hlt, HB.out.1, HB.out.2.drew⟩
          case measure => simp [intOf]; omega
        · have hf17 : wr.cell? ⟨w.heap.size, 17, none⟩ = some (.slice (some ⟨w.heap.size + 1, 0, none⟩) N N) := (hcell _).trans HF.out.c17
          have HC : Hid (∀ a, wr.cell? a = w3.cell? a) := hcell
          have HB : Hid (Below w.heap.size w wr) := hbel
          clear hcell hbel hh
          go_wp2
          go_loopw [75] (fun vi wq => ∃ i : Nat, vi = .int .i64 i ∧ i ≤ N ∧ wq = wr) (fun vi _ => N - (intOf vi).toNat)
          case atStart => exact ⟨0, rfl, Nat.zero_le _, rfl⟩
          case round =>
            obtain ⟨j, rfl, hj, rfl⟩ := hrel
            by_cases hlt2 : j < N
            · obtain rfl := HS.out (by omega)
              have h1 := (HC.out _).trans (HF.out.zs j hlt2)
              have h2 := (HC.out _).trans (HF.out.src j hlt2)
              have hzj := HZ.out j
              generalize z j = y at h1 h2 hzj
              go_wp2
              go_roundw
              case rel => exact ⟨j + 1, by go_num, hlt2, by first | trivial | rfl⟩
              case measure => simp [intOf]; omega
            · go_wp2
              go_ret
              exact ⟨rfl, HB.out⟩
    · go_enter Yba.func3, Yba.ntmps3
      go_wp2
      go_ret
      exact ⟨rfl, Below.refl _ _⟩
  · go_enter Yba.func3, Yba.ntmps3
    go_wp2
    go_ret
    exact ⟨rfl, Below.refl _ _⟩
end Go.Proofs.Ybulkdcoi
