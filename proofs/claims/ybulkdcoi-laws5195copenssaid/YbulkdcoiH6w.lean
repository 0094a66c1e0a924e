/-
  container/heap's 'up' ON A RANKING (way groups).
-/
import Derived.Test.YbulkdcoiH5w
import Derived.Deep.LoopGhost
namespace Go.Proofs.Ybulkdcoi
open Go.RowKit
set_option linter.unusedVariables false

theorem way_step {R : Nat → Nat → Prop} {Mem : Nat → Nat → Prop} {RB ro A cap n m : Nat} {M M' M2 : Cel} {i j : Nat} (h : Hp (WayOkM R) M M' R Mem RB ro A cap n m) (hi : i < m) (hj : j < m)
    (k1 : Rk M2 R Mem RB ro A cap n) (k2 : Kp M' M2 R) (e1 : M2 A i = M' A j) (e2 : M2 A j = M' A i) (e3 : ∀ k, k ≠ i → k ≠ j → M2 A k = M' A k) : Hp (WayOkM R) M M2 R Mem RB ro A cap n m :=
  ⟨k1, h.kp.trans k2, fun k hk => (e3 k (by omega) (by omega)).trans (h.stay k hk), fun k gb go hk hm => by
    by_cases c1 : k = i
    · subst c1
      exact (h.ok j gb go hj (e1.symm.trans hm)).keep k2
    · by_cases c2 : k = j
      · subst c2
        exact (h.ok i gb go hi (e2.symm.trans hm)).keep k2
      · exact (h.ok k gb go hk ((e3 k c1 c2).symm.trans hm)).keep k2⟩

set_option maxRecDepth 100000 in
set_option maxHeartbeats 1000000 in
theorem way_up {R : Nat → Nat → Prop} {Mem : Nat → Nat → Prop} {RB ro A cap n m : Nat} (M : Cel) (W : World) (j : Nat) (hA : Agr W M) (h : Hp (WayOkM R) M M R Mem RB ro A cap n m) (hm : m ≤ n) (hn : n ≤ 100000) (hj : j < m) :
    Calls Yba.prog 53 #[.iface 143 (ptr RB ro), .int .i64 j] W fun e w' => e = .returned (.tuple #[]) ∧ ∃ M', Stp W M w' M' ∧ Hp (WayOkM R) M M' R Mem RB ro A cap n m := by
  have hl := less143
  have hs := swap143
  go_enter Yba.func53, Yba.ntmps53
  go_wp2
  go_loopg [1] j (fun k s1 wr => ∃ (j' : Nat) (M' : Cel), s1 = .int .i64 j' ∧ j' ≤ k ∧ j' < m ∧ Stp W M wr M' ∧ Hp (WayOkM R) M M' R Mem RB ro A cap n m)
  case atStart => exact ⟨j, M, rfl, Nat.le_refl _, hj, Stp.refl hA, h⟩
  case round =>
    obtain ⟨j', M', rfl, hk, hj', hst, hp⟩ := hrel
    by_cases h0 : j' = 0
    · subst h0
      go_wp2
      go_end0
      exact ⟨rfl, M', hst, hp⟩
    · obtain ⟨p, hpp⟩ : ∃ p, p = (j' - 1) / 2 := ⟨_, rfl⟩
      have hq1 : ((j' : Int) - 1) / 2 = (p : Int) := by omega
      have hpj : p < j' := by omega
      have hpj' : (p : Int) ≠ (j' : Int) := by omega
      obtain ⟨b, hless⟩ := way_lessM M' wr j' p hst.agr hp.rk (by omega) (by omega) hn (fun gb go e => hp.ok j' gb go hj' e) (fun gb go e => hp.ok p gb go (by omega) e)
      have hless0 : Calls Yba.prog 93 #[ptr RB ro, .int .i64 j', .int .i64 p] wr fun e w' => e = .returned (.bool b) ∧ ∃ q, w' = wr.drewN q := hless 0
      clear hless
      have hswap : ∀ q, Calls Yba.prog 96 #[ptr RB ro, .int .i64 p, .int .i64 j'] (wr.drewN q) fun e w' => e = .returned (.tuple #[]) ∧ ∃ M2, Stp W M w' M2 ∧ Hp (WayOkM R) M M2 R Mem RB ro A cap n m := fun q =>
        (way_swap M' (wr.drewN q) p j' (fun b o v hv => hst.agr b o v hv) hp.rk (by omega) (by omega) hn (by omega)).mono fun e w' ⟨he, M2, s2, k1, k2, e1, e2, e3⟩ =>
          ⟨he, M2, (hst.drewN q).trans s2, way_step hp (by omega) hj' k1 k2 e1 e2 e3⟩
      have hB : Hd (Stp W M wr M' ∧ Hp (WayOkM R) M M' R Mem RB ro A cap n m) := ⟨⟨hst, hp⟩⟩
      clear hst hp
      rw [← hq1] at hless0 hswap hpj'
      have hQ : Hd (((j' : Int) - 1) / 2 = (p : Int)) := ⟨hq1⟩
      clear hq1 hpp
      cases b
      · go_wp2_with (first | (go_at_call 93; refine hless0.mono ?_; rintro e w' ⟨rfl, q, rfl⟩))
        go_end0
        exact ⟨rfl, M', hB.out.1.drewN q, hB.out.2⟩
      · go_wp2_with (first | (go_at_call 93; refine hless0.mono ?_; rintro e w' ⟨rfl, q, rfl⟩) | (go_at_call 96; refine (hswap _).mono ?_; rintro e w2 ⟨rfl, M2, s2, p2⟩))
        go_roundg p
        case measure => omega
        case rel => exact ⟨p, M2, by rw [hQ.out], Nat.le_refl _, by omega, s2, p2⟩
end Go.Proofs.Ybulkdcoi
