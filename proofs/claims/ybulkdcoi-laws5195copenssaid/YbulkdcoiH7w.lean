/-
  container/heap's 'down' ON A RANKING (way groups).
-/
import Derived.Test.YbulkdcoiH6w
namespace Go.Proofs.Ybulkdcoi
open Go.RowKit
set_option linter.unusedVariables false

set_option maxRecDepth 100000 in
set_option maxHeartbeats 2000000 in
theorem way_down {R : Nat → Nat → Prop} {Mem : Nat → Nat → Prop} {RB ro A cap n m : Nat} (M : Cel) (W : World) (i : Nat) (hA : Agr W M) (h : Hp (WayOkM R) M M R Mem RB ro A cap n m) (hm : m ≤ n) (hn : n ≤ 100000) (hi : i < m) :
    Calls Yba.prog 52 #[.iface 143 (ptr RB ro), .int .i64 i, .int .i64 m] W fun e w' => ∃ b, e = .returned (.bool b) ∧ ∃ M', Stp W M w' M' ∧ Hp (WayOkM R) M M' R Mem RB ro A cap n m := by
  have hl := less143
  have hs := swap143
  go_enter Yba.func52, Yba.ntmps52
  go_wp2
  go_loopg [7] (m - i) (fun k s7 wr => ∃ (i' : Nat) (M' : Cel), s7 = .int .i64 i' ∧ m - i' ≤ k ∧ i' < m ∧ Stp W M wr M' ∧ Hp (WayOkM R) M M' R Mem RB ro A cap n m)
  case atStart => exact ⟨i, M, rfl, Nat.le_refl _, hi, Stp.refl hA, h⟩
  case round =>
    obtain ⟨i', M', rfl, hk, hi', hst, hp⟩ := hrel
    have less : ∀ x y, x < m → y < m → ∃ b, ∀ q, Calls Yba.prog 93 #[ptr RB ro, .int .i64 x, .int .i64 y] (wr.drewN q) fun e w' => e = .returned (.bool b) ∧ ∃ q2, w' = (wr.drewN q).drewN q2 := fun x y hx hy =>
      way_lessM M' wr x y hst.agr hp.rk (by omega) (by omega) hn (fun gb go e => hp.ok x gb go hx e) (fun gb go e => hp.ok y gb go hy e)
    have swap : ∀ y, i' < y → y < m → ∀ q, Calls Yba.prog 96 #[ptr RB ro, .int .i64 i', .int .i64 y] (wr.drewN q) fun e w' => e = .returned (.tuple #[]) ∧ ∃ M2, Stp W M w' M2 ∧ Hp (WayOkM R) M M2 R Mem RB ro A cap n m := fun y h1 h2 q =>
        (way_swap M' (wr.drewN q) i' y (fun b o v hv => hst.agr b o v hv) hp.rk (by omega) (by omega) hn (by omega)).mono fun e w' ⟨he, M2, s2, k1, k2, e1, e2, e3⟩ =>
          ⟨he, M2, (hst.drewN q).trans s2, way_step hp hi' h2 k1 k2 e1 e2 e3⟩
    have hB : Hd (Stp W M wr M' ∧ Hp (WayOkM R) M M' R Mem RB ro A cap n m) := ⟨⟨hst, hp⟩⟩
    clear hst hp
    have f1 : ((2 * i' + 1 : Nat) : Int) = 2 * (i' : Int) + 1 := by omega
    have f2 : ((2 * i' + 2 : Nat) : Int) = 2 * (i' : Int) + 1 + 1 := by omega
    by_cases h0 : m ≤ 2 * i' + 1
    · have h0z : (m : Int) ≤ 2 * (i' : Int) + 1 := by omega
      clear less swap f1 f2
      go_wp2
      go_ret
      exact ⟨_, rfl, M', hB.out.1, hB.out.2⟩
    · have h0z : ¬ ((m : Int) ≤ 2 * (i' : Int) + 1) := by omega
      obtain ⟨b3, l3⟩ := less (2 * i' + 1) i' (by omega) hi'
      have s1 := swap (2 * i' + 1) (by omega) (by omega)
      rw [f1] at l3 s1
      by_cases h1 : 2 * i' + 2 < m
      · have h1z : 2 * (i' : Int) + 1 + 1 < (m : Int) := by omega
        obtain ⟨b1, l1⟩ := less (2 * i' + 2) (2 * i' + 1) h1 (by omega)
        obtain ⟨b2, l2⟩ := less (2 * i' + 2) i' (by omega) hi'
        have s2 := swap (2 * i' + 2) (by omega) (by omega)
        rw [f1, f2] at l1
        rw [f2] at l2 s2
        have l10 : Calls Yba.prog 93 #[ptr RB ro, .int .i64 (2 * (i' : Int) + 1 + 1), .int .i64 (2 * (i' : Int) + 1)] wr fun e w' => e = .returned (.bool b1) ∧ ∃ q2, w' = wr.drewN q2 := l1 0
        have hF : Hd (((2 * i' + 1 : Nat) : Int) = 2 * (i' : Int) + 1 ∧ ((2 * i' + 2 : Nat) : Int) = 2 * (i' : Int) + 1 + 1) := ⟨f1, f2⟩
        clear less swap f1 f2 l1
        cases b1
        · clear l2 s2
          cases b3
          · go_wp2_with (first | (go_at_call 93; with_reducible refine l10.mono ?_; rintro e w' ⟨rfl, q, rfl⟩) | (go_at_call 93; with_reducible refine (l3 _).mono ?_; rintro e w' ⟨rfl, q2, rfl⟩))
            go_ret
            exact ⟨_, rfl, M', hB.out.1.drewN _, hB.out.2⟩
          · go_wp2_with (first | (go_at_call 93; with_reducible refine l10.mono ?_; rintro e w' ⟨rfl, q, rfl⟩) | (go_at_call 93; with_reducible refine (l3 _).mono ?_; rintro e w' ⟨rfl, q2, rfl⟩) | (go_at_call 96; refine (s1 _).mono ?_; rintro e w2 ⟨rfl, M2, t2, p2⟩))
            go_roundg (m - (2 * i' + 1))
            case measure => omega
            case rel => exact ⟨2 * i' + 1, M2, by rw [hF.out.1], Nat.le_refl _, by omega, t2, p2⟩
        · clear l3 s1
          cases b2
          · go_wp2_with (first | (go_at_call 93; with_reducible refine l10.mono ?_; rintro e w' ⟨rfl, q, rfl⟩) | (go_at_call 93; with_reducible refine (l2 _).mono ?_; rintro e w' ⟨rfl, q2, rfl⟩))
            go_ret
            exact ⟨_, rfl, M', hB.out.1.drewN _, hB.out.2⟩
          · go_wp2_with (first | (go_at_call 93; with_reducible refine l10.mono ?_; rintro e w' ⟨rfl, q, rfl⟩) | (go_at_call 93; with_reducible refine (l2 _).mono ?_; rintro e w' ⟨rfl, q2, rfl⟩) | (go_at_call 96; refine (s2 _).mono ?_; rintro e w2 ⟨rfl, M2, t2, p2⟩))
            go_roundg (m - (2 * i' + 2))
            case measure => omega
            case rel => exact ⟨2 * i' + 2, M2, by rw [hF.out.2], Nat.le_refl _, by omega, t2, p2⟩
      · have h1z : ¬ (2 * (i' : Int) + 1 + 1 < (m : Int)) := by omega
        have l30 : Calls Yba.prog 93 #[ptr RB ro, .int .i64 (2 * (i' : Int) + 1), .int .i64 i'] wr fun e w' => e = .returned (.bool b3) ∧ ∃ q2, w' = wr.drewN q2 := l3 0
        have hF : Hd (((2 * i' + 1 : Nat) : Int) = 2 * (i' : Int) + 1) := ⟨f1⟩
        clear less swap f1 f2 l3
        cases b3
        · go_wp2_with (first | (go_at_call 93; with_reducible refine l30.mono ?_; rintro e w' ⟨rfl, q2, rfl⟩))
          go_ret
          exact ⟨_, rfl, M', hB.out.1.drewN _, hB.out.2⟩
        · go_wp2_with (first | (go_at_call 93; with_reducible refine l30.mono ?_; rintro e w' ⟨rfl, q2, rfl⟩) | (go_at_call 96; refine (s1 _).mono ?_; rintro e w2 ⟨rfl, M2, t2, p2⟩))
          go_roundg (m - (2 * i' + 1))
          case measure => omega
          case rel => exact ⟨2 * i' + 1, M2, by rw [hF.out], Nat.le_refl _, by omega, t2, p2⟩
end Go.Proofs.Ybulkdcoi
