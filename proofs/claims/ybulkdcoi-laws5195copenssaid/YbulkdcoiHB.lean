/-
  heap.Fix, heap.Remove ON A RANKING (way groups); 'update', 'remove' of a group that is in it.
-/
import Derived.Test.YbulkdcoiH7w
import Derived.Test.YbulkdcoiH9w
import Derived.Test.YbulkdcoiHAw
namespace Go.Proofs.Ybulkdcoi
open Go.RowKit
set_option linter.unusedVariables false

def Mem0 (Mem : Nat → Nat → Prop) (gb go : Nat) : Nat → Nat → Prop := fun xb xo => Mem xb xo ∧ ¬ (xb = gb ∧ xo = go)

theorem way_pop {R : Nat → Nat → Prop} {Mem : Nat → Nat → Prop} {RB ro A cap n : Nat} (M : Cel) (W : World) (gb go : Nat) (hA : Agr W M) (h : Rk M R Mem RB ro A cap (n + 1)) (hn : n ≤ 100000) (e : M A n = some (ptr gb go)) :
    Calls Yba.prog 94 #[ptr RB ro] W fun e w' => (∃ v, e = .returned v) ∧ ∃ M', Stp W M w' M' ∧ Rk M' R (Mem0 Mem gb go) RB ro A cap n ∧ M' gb (go + 7) = some (.int .i64 0) ∧ (∀ b o, ¬ R b o → ¬ (b = RB ∧ o = ro) → M' b o = M b o) := by
  obtain ⟨xb, xo, hx, he, hr⟩ := h.ent n (by omega)
  rw [e] at he
  obtain ⟨rfl, rfl⟩ := ptr_inj he
  obtain ⟨gA, gR, gr⟩ := h.far _ _ hx
  refine way_pop_raw RB ro A n cap gb go _ W _ hn h.le (Ne.symm gR) h.RA gA (hA _ _ _ h.hdr).1 (hA _ _ _ h.hdr).2 (hA _ _ _ e).1 (hA _ _ _ e).2 (hA _ _ _ hr).1 (hA _ _ _ hr).2 ?_
  have s1 := (Stp.refl hA).set e (.pointer none)
  have s2 := s1.set (b := RB) (o := ro) (u := .slice (some ⟨A, 0, none⟩) (n + 1) cap) (by rw [up_other _ _ (Or.inl h.RA)]; exact h.hdr) (.slice (some ⟨A, 0, none⟩) n cap)
  have s3 := s2.set (b := gb) (o := go + 7) (u := .int .i64 ((n : Int) + 1)) (by rw [up_other _ _ (Or.inl gR), up_other _ _ (Or.inl gA)]; exact hr) (.int .i64 0)
  have row : ∀ k, k ≠ n → up (up (up M A n (.pointer none)) RB ro (.slice (some ⟨A, 0, none⟩) n cap)) gb (go + 7) (.int .i64 0) A k = M A k := fun k hk => by
    rw [up_other _ _ (Or.inl (Ne.symm gA)), up_other _ _ (Or.inl (Ne.symm h.RA)), up_other _ _ (Or.inr hk)]
  have old : ∀ yb yo, Mem yb yo → ¬ (yb = gb ∧ yo = go) → up (up (up M A n (.pointer none)) RB ro (.slice (some ⟨A, 0, none⟩) n cap)) gb (go + 7) (.int .i64 0) yb (yo + 7) = M yb (yo + 7) := fun yb yo hy hne => by
    obtain ⟨f1, f2, f3⟩ := h.far yb yo hy
    rw [up_other _ _ (by
      by_cases e1 : yb = gb
      · exact Or.inr fun e2 => hne ⟨e1, by omega⟩
      · exact Or.inl e1), up_other _ _ (Or.inl f2), up_other _ _ (Or.inl f1)]
  refine ⟨_, s3.drew, ⟨?_, by have := h.le; omega, fun k hk => ?_, fun k hk => ?_, fun yb yo hy => ?_, fun yb yo hy => h.far yb yo hy.1, h.rowR, h.hdrR, h.RA⟩, up_same _ _ _ _, fun b o hb hne => ?_⟩
  · rw [up_other _ _ (Or.inl (Ne.symm gR)), up_same]
  · by_cases hkn : k = n
    · subst hkn
      rw [up_other _ _ (Or.inl (Ne.symm gA)), up_other _ _ (Or.inl (Ne.symm h.RA)), up_same]
      exact ⟨_, rfl⟩
    · rw [row k hkn]
      exact h.row k hk
  · obtain ⟨yb, yo, hy, hm, hr2⟩ := h.ent k (by omega)
    have hne : ¬ (yb = gb ∧ yo = go) := by
      rintro ⟨rfl, rfl⟩
      rw [hr] at hr2
      have := rank_inj hr2
      omega
    exact ⟨yb, yo, ⟨hy, hne⟩, (row k (by omega)).trans hm, (old yb yo hy hne).trans hr2⟩
  · obtain ⟨k, hk, hm⟩ := h.mem yb yo hy.1
    have hkn : k ≠ n := by
      rintro rfl
      rw [e] at hm
      obtain ⟨rfl, rfl⟩ := ptr_inj hm
      exact hy.2 ⟨rfl, rfl⟩
    exact ⟨k, by omega, (row k hkn).trans hm⟩
  · rw [up_other _ _ (by
      by_cases e1 : b = gb
      · exact Or.inr fun e2 => hb (by rw [e1, e2]; exact gr)
      · exact Or.inl e1), up_other _ _ (by
      by_cases e1 : b = RB
      · exact Or.inr fun e2 => hne ⟨e1, e2⟩
      · exact Or.inl e1), up_other _ _ (by
      by_cases e1 : b = A
      · exact absurd (h.rowR o) (by rw [← e1]; exact hb)
      · exact Or.inl e1)]

theorem RkZ.some {W : World} {M : Cel} {K : Nat → Nat → Prop} {Mem : Nat → Nat → Prop} {RB ro n k : Nat} {hd : Option (Nat × Nat)} {e : TypeId} (h : RkZ W M K Mem RB ro hd n e) (hk : k < n) : ∃ A cap, hd = some (A, cap) := by
  rcases hd with _ | ⟨A, cap⟩
  · have : n = 0 := h.rows
    omega
  · exact ⟨A, cap, rfl⟩

set_option maxRecDepth 100000 in
set_option maxHeartbeats 1000000 in
theorem way_fix {K : Nat → Nat → Prop} {Mem : Nat → Nat → Prop} {RB ro n : Nat} {hd : Option (Nat × Nat)} (M : Cel) (W : World) (k : Nat) (hA : Agr W M) (h : RkZ W M K Mem RB ro hd n 97) (hn : n ≤ 100000) (hk : k < n)
    (oks : ∀ xb xo, Mem xb xo → WayOkM (RZ K hd) M xb xo) :
    Calls Yba.prog 33 #[.iface 143 (ptr RB ro), .int .i64 k] W fun e w' => e = .returned (.tuple #[]) ∧ ∃ M', Stp W M w' M' ∧ RkZ w' M' K Mem RB ro hd n 97 ∧ Kp M M' (RZ K hd) := by
  obtain ⟨A, cap, rfl⟩ := h.some hk
  have hp0 : Hp (WayOkM (RZ K (some (A, cap)))) M M (RZ K (some (A, cap))) Mem RB ro A cap n n := ⟨h.rk, Kp.refl _ _, fun _ _ => rfl, fun j gb go hj hm => by
    obtain ⟨xb, xo, hx, he, hr⟩ := h.ent A j ⟨cap, rfl⟩ hj
    rw [hm] at he
    obtain ⟨rfl, rfl⟩ := ptr_inj he
    exact oks _ _ hx⟩
  have hc := (hA _ _ _ h.hdr).1
  have hdown := way_down M W k hA hp0 (Nat.le_refl _) hn hk
  have fin : ∀ w1 M1, Stp W M w1 M1 → Hp (WayOkM (RZ K (some (A, cap)))) M M1 (RZ K (some (A, cap))) Mem RB ro A cap n n → ∃ M', Stp W M w1 M' ∧ RkZ w1 M' K Mem RB ro (some (A, cap)) n 97 ∧ Kp M M' (RZ K (some (A, cap))) := fun w1 M1 s1 p1 => ⟨M1, s1, p1.rk.z (s1.shape _ _ _ h.rows.2.2.1) h.rows.2.1, p1.kp⟩
  have hup : ∀ w1 M1, Stp W M w1 M1 → Hp (WayOkM (RZ K (some (A, cap)))) M M1 (RZ K (some (A, cap))) Mem RB ro A cap n n → Calls Yba.prog 53 #[.iface 143 (ptr RB ro), .int .i64 k] w1 fun e w' => e = .returned (.tuple #[]) ∧ ∃ M', Stp W M w' M' ∧ RkZ w' M' K Mem RB ro (some (A, cap)) n 97 ∧ Kp M M' (RZ K (some (A, cap))) := fun w1 M1 s1 p1 =>
    (way_up M1 w1 k s1.agr ⟨p1.rk, Kp.refl _ _, fun _ _ => rfl, p1.ok⟩ (Nat.le_refl _) hn hk).mono fun e w' ⟨he, M2, s2, p2⟩ => ⟨he, M2, s1.trans s2, p2.rk.z ((s1.trans s2).shape _ _ _ h.rows.2.2.1) h.rows.2.1, p1.kp.trans p2.kp⟩
  have hm2 := len143
  clear hp0 oks h hA
  replace hdown : Calls Yba.prog 52 #[.iface 143 (ptr RB ro), .int .i64 k, .int .i64 n] W fun e w' => ∃ b, e = .returned (.bool b) ∧ (∃ M', Stp W M w' M' ∧ RkZ w' M' K Mem RB ro (some (A, cap)) n 97 ∧ Kp M M' (RZ K (some (A, cap)))) ∧ Calls Yba.prog 53 #[.iface 143 (ptr RB ro), .int .i64 k] w' fun e w' => e = .returned (.tuple #[]) ∧ ∃ M', Stp W M w' M' ∧ RkZ w' M' K Mem RB ro (some (A, cap)) n 97 ∧ Kp M M' (RZ K (some (A, cap))) :=
    hdown.mono fun e w' ⟨b, he, M1, s1, p1⟩ => ⟨b, he, fin _ _ s1 p1, hup _ _ s1 p1⟩
  clear fin hup
  go_enter Yba.func33, Yba.ntmps33
  go_wp2_with (first | (go_at_call 13; refine (way_len _ _ _ _ _ _ hc).mono ?_; rintro e w' ⟨rfl, rfl⟩) | (go_at_call 52; refine hdown.mono ?_; rintro e w' ⟨b, rfl, hf, hu⟩; cases b) | (go_at_call 53; refine hu.mono ?_; rintro e w' ⟨rfl, hf⟩))
  all_goals (try go_wp2_with (first | (go_at_call 53; refine hu.mono ?_; rintro e w' ⟨rfl, hf⟩)))
  all_goals go_end0
  all_goals exact ⟨rfl, hf⟩

set_option maxRecDepth 100000 in
set_option maxHeartbeats 1000000 in
theorem way_update_in {K : Nat → Nat → Prop} {Mem : Nat → Nat → Prop} {RB ro n : Nat} {hd : Option (Nat × Nat)} (M : Cel) (W : World) (gb go : Nat) (hA : Agr W M) (h : RkZ W M K Mem RB ro hd n 97) (hn : n ≤ 100000) (hg : Mem gb go)
    (oks : ∀ xb xo, Mem xb xo → WayOkM (RZ K hd) M xb xo) :
    Calls Yba.prog 47 #[ptr RB ro, ptr gb go] W fun e w' => e = .returned (.tuple #[]) ∧ ∃ M', Stp W M w' M' ∧ RkZ w' M' K Mem RB ro hd n 97 ∧ Kp M M' (RZ K hd) := by
  obtain ⟨A, k, hAr, hk, he⟩ := h.mem _ _ hg
  obtain ⟨xb, xo, hx, he2, hr⟩ := h.ent A k hAr hk
  rw [he] at he2
  obtain ⟨rfl, rfl⟩ := ptr_inj he2
  have hp := way_fix M W k hA h hn hk oks
  have c7 := (hA _ _ _ hr).1
  have hm := at97
  simp [Yba.t97] at hm
  clear hA h oks he hr hx
  go_enter Yba.func47, Yba.ntmps47
  go_wp2_with (first | (go_at_call 87; refine (at_way _ _ _).mono ?_; rintro e w' ⟨rfl, rfl⟩) | (go_at_call 33; refine hp.mono ?_; rintro e w' ⟨rfl, hfin⟩))
  (try simp only [Exit.inBlock, Exit.then]); refine bodyPost_ret (results_none rfl _ _ _) rfl ?_
  exact ⟨rfl, hfin⟩

set_option maxRecDepth 100000 in
set_option maxHeartbeats 1000000 in
theorem way_hremove {K : Nat → Nat → Prop} {Mem : Nat → Nat → Prop} {RB ro n : Nat} {hd : Option (Nat × Nat)} (M : Cel) (W : World) (gb go k : Nat) (hA : Agr W M) (h : RkZ W M K Mem RB ro hd (n + 1) 97) (hn : n < 100000) (hk : k < n + 1) (A : Nat) (hAr : arrB hd A) (he : M A k = some (ptr gb go))
    (oks : ∀ xb xo, Mem xb xo → ¬ (xb = gb ∧ xo = go) → WayOkM (RZ K hd) M xb xo) :
    Calls Yba.prog 50 #[.iface 143 (ptr RB ro), .int .i64 k] W fun e w' => (∃ v, e = .returned v) ∧ ∃ M', Stp W M w' M' ∧ RkZ w' M' K (Mem0 Mem gb go) RB ro hd n 97 ∧ M' gb (go + 7) = some (.int .i64 0) ∧ Fz W M M' K hd RB ro := by
  obtain ⟨A', cap, rfl⟩ := h.some hk
  obtain rfl := arrB_some.1 hAr
  have hc := (hA _ _ _ h.hdr).1
  have hm1 := len143
  have hm2 := pop143
  have hm3 := swap143
  -- the end
  have hpop : ∀ w3 M3, Stp W M w3 M3 → Rk M3 (RZ K (some (A, cap))) Mem RB ro A cap (n + 1) → M3 A n = some (ptr gb go) → Kp M M3 (RZ K (some (A, cap))) → Calls Yba.prog 94 #[ptr RB ro] w3 fun e w' => (∃ v, e = .returned v) ∧ ∃ M', Stp W M w' M' ∧ RkZ w' M' K (Mem0 Mem gb go) RB ro (some (A, cap)) n 97 ∧ M' gb (go + 7) = some (.int .i64 0) ∧ Fz W M M' K (some (A, cap)) RB ro := fun w3 M3 s3 r3 e3 k3 =>
    (way_pop M3 w3 gb go s3.agr r3 (by omega) e3).mono fun e w' ⟨hv, M4, s4, r4, z4, f4⟩ => ⟨hv, M4, s3.trans s4, r4.z ((s3.trans s4).shape _ _ _ h.rows.2.2.1) h.rows.2.1, z4, fun b o hb hK ha hne => by
      have hr : ¬ RZ K (some (A, cap)) b o := by
        rintro (hr | hr)
        · exact hK hr
        · exact ha hr
      exact (f4 b o hr hne).trans (k3 b o hr)⟩
  by_cases hkn : k = n
  · subst hkn
    have hp := hpop W M (Stp.refl hA) h.rk he (Kp.refl _ _)
    clear hpop oks h hA he
    go_enter Yba.func50, Yba.ntmps50
    go_wp2_with (first | (go_at_call 13; refine (way_len _ _ _ _ _ _ hc).mono ?_; rintro e w' ⟨rfl, rfl⟩) | (go_at_call 94; refine hp.mono ?_; rintro e w' ⟨⟨v, rfl⟩, hfin⟩))
    go_ret
    exact ⟨⟨_, rfl⟩, hfin⟩
  · have hkn' : k < n := by omega
    have hknz : (k : Int) ≠ (n : Int) := by omega
    have hknz' : (n : Int) ≠ (k : Int) := by omega
    have hup : ∀ w2 M2, Stp W M w2 M2 → Rk M2 (RZ K (some (A, cap))) Mem RB ro A cap (n + 1) → M2 A n = some (ptr gb go) → Kp M M2 (RZ K (some (A, cap))) → (∀ j xb xo, j < n → M2 A j = some (ptr xb xo) → WayOkM (RZ K (some (A, cap))) M2 xb xo) → Calls Yba.prog 53 #[.iface 143 (ptr RB ro), .int .i64 k] w2 fun e w' => e = .returned (.tuple #[]) ∧ Calls Yba.prog 94 #[ptr RB ro] w' fun e w' => (∃ v, e = .returned v) ∧ ∃ M', Stp W M w' M' ∧ RkZ w' M' K (Mem0 Mem gb go) RB ro (some (A, cap)) n 97 ∧ M' gb (go + 7) = some (.int .i64 0) ∧ Fz W M M' K (some (A, cap)) RB ro := fun w2 M2 s2 r2 e2 k2 o2 =>
      (way_up (m := n) M2 w2 k s2.agr ⟨r2, Kp.refl _ _, fun _ _ => rfl, o2⟩ (by omega) (by omega) hkn').mono fun e w' ⟨he, M3, s3, p3⟩ => ⟨he, hpop w' M3 (s2.trans s3) p3.rk ((p3.stay n (Nat.le_refl _)).trans e2) (k2.trans p3.kp)⟩
    have hdown : ∀ w1 M1, Stp W M w1 M1 → Rk M1 (RZ K (some (A, cap))) Mem RB ro A cap (n + 1) → M1 A n = some (ptr gb go) → Kp M M1 (RZ K (some (A, cap))) → (∀ j xb xo, j < n → M1 A j = some (ptr xb xo) → WayOkM (RZ K (some (A, cap))) M1 xb xo) → Calls Yba.prog 52 #[.iface 143 (ptr RB ro), .int .i64 k, .int .i64 n] w1 fun e w' => ∃ b, e = .returned (.bool b) ∧
        (Calls Yba.prog 94 #[ptr RB ro] w' fun e w' => (∃ v, e = .returned v) ∧ ∃ M', Stp W M w' M' ∧ RkZ w' M' K (Mem0 Mem gb go) RB ro (some (A, cap)) n 97 ∧ M' gb (go + 7) = some (.int .i64 0) ∧ Fz W M M' K (some (A, cap)) RB ro) ∧
        (Calls Yba.prog 53 #[.iface 143 (ptr RB ro), .int .i64 k] w' fun e w' => e = .returned (.tuple #[]) ∧ Calls Yba.prog 94 #[ptr RB ro] w' fun e w' => (∃ v, e = .returned v) ∧ ∃ M', Stp W M w' M' ∧ RkZ w' M' K (Mem0 Mem gb go) RB ro (some (A, cap)) n 97 ∧ M' gb (go + 7) = some (.int .i64 0) ∧ Fz W M M' K (some (A, cap)) RB ro) := fun w1 M1 s1 r1 e1 k1 o1 =>
      (way_down (m := n) M1 w1 k s1.agr ⟨r1, Kp.refl _ _, fun _ _ => rfl, o1⟩ (by omega) (by omega) hkn').mono fun e w' ⟨b, he, M2, s2, p2⟩ =>
        ⟨b, he, hpop w' M2 (s1.trans s2) p2.rk ((p2.stay n (Nat.le_refl _)).trans e1) (k1.trans p2.kp), hup w' M2 (s1.trans s2) p2.rk ((p2.stay n (Nat.le_refl _)).trans e1) (k1.trans p2.kp) p2.ok⟩
    have hswap : Calls Yba.prog 96 #[ptr RB ro, .int .i64 k, .int .i64 n] W fun e w' => e = .returned (.tuple #[]) ∧ Calls Yba.prog 52 #[.iface 143 (ptr RB ro), .int .i64 k, .int .i64 n] w' fun e w' => ∃ b, e = .returned (.bool b) ∧
        (Calls Yba.prog 94 #[ptr RB ro] w' fun e w' => (∃ v, e = .returned v) ∧ ∃ M', Stp W M w' M' ∧ RkZ w' M' K (Mem0 Mem gb go) RB ro (some (A, cap)) n 97 ∧ M' gb (go + 7) = some (.int .i64 0) ∧ Fz W M M' K (some (A, cap)) RB ro) ∧
        (Calls Yba.prog 53 #[.iface 143 (ptr RB ro), .int .i64 k] w' fun e w' => e = .returned (.tuple #[]) ∧ Calls Yba.prog 94 #[ptr RB ro] w' fun e w' => (∃ v, e = .returned v) ∧ ∃ M', Stp W M w' M' ∧ RkZ w' M' K (Mem0 Mem gb go) RB ro (some (A, cap)) n 97 ∧ M' gb (go + 7) = some (.int .i64 0) ∧ Fz W M M' K (some (A, cap)) RB ro) :=
      (way_swap M W k n hA h.rk hk (by omega) (by omega) hkn).mono fun e w1 ⟨hee, M1, s1, r1, k1, e1, e2, e3⟩ => ⟨hee, hdown w1 M1 s1 r1 (e2.trans he) k1 fun j xb xo hj hm => by
        obtain ⟨yb, yo, hy, hm2, hr⟩ := r1.ent j (by omega)
        rw [hm] at hm2
        obtain ⟨rfl, rfl⟩ := ptr_inj hm2
        have hd := r1.apart (i := j) (j := n) (by omega) (by omega) (by omega) hm (e2.trans he)
        exact (oks _ _ hy (by rintro ⟨rfl, rfl⟩; rcases hd with hd | hd <;> exact hd rfl)).keep k1⟩
    clear hpop hup hdown oks h hA he
    go_enter Yba.func50, Yba.ntmps50
    go_wp2_with (first | (go_at_call 13; refine (way_len _ _ _ _ _ _ hc).mono ?_; rintro e w' ⟨rfl, rfl⟩) | (go_at_call 96; refine hswap.mono ?_; rintro e w1 ⟨rfl, hd1⟩) | (go_at_call 52; refine hd1.mono ?_; rintro e w2 ⟨b, rfl, hp, hu⟩; cases b) | (go_at_call 53; refine hu.mono ?_; rintro e w3 ⟨rfl, hp3⟩; clear hp) | (go_at_call 94; first | (refine hp.mono ?_; rintro e w' ⟨⟨v, rfl⟩, hfin⟩) | (refine hp3.mono ?_; rintro e w' ⟨⟨v, rfl⟩, hfin⟩)))
    all_goals (try go_wp2_with (first | (go_at_call 53; refine hu.mono ?_; rintro e w3 ⟨rfl, hp3⟩; clear hp) | (go_at_call 94; first | (refine hp.mono ?_; rintro e w' ⟨⟨v, rfl⟩, hfin⟩) | (refine hp3.mono ?_; rintro e w' ⟨⟨v, rfl⟩, hfin⟩))))
    all_goals go_ret
    all_goals exact ⟨⟨_, rfl⟩, hfin⟩

set_option maxRecDepth 100000 in
set_option maxHeartbeats 1000000 in
theorem way_remove_in {K : Nat → Nat → Prop} {Mem : Nat → Nat → Prop} {RB ro n : Nat} {hd : Option (Nat × Nat)} (M : Cel) (W : World) (gb go : Nat) (hA : Agr W M) (h : RkZ W M K Mem RB ro hd n 97) (hn : n ≤ 100000) (hg : Mem gb go)
    (oks : ∀ xb xo, Mem xb xo → ¬ (xb = gb ∧ xo = go) → WayOkM (RZ K hd) M xb xo) :
    Calls Yba.prog 46 #[ptr RB ro, ptr gb go] W fun e w' => e = .returned (.tuple #[]) ∧ 0 < n ∧ ∃ M', Stp W M w' M' ∧ RkZ w' M' K (Mem0 Mem gb go) RB ro hd (n - 1) 97 ∧ M' gb (go + 7) = some (.int .i64 0) ∧ Fz W M M' K hd RB ro := by
  obtain ⟨A, k, hAr, hk, he⟩ := h.mem _ _ hg
  obtain ⟨xb, xo, hx, he2, hr⟩ := h.ent A k hAr hk
  rw [he] at he2
  obtain ⟨rfl, rfl⟩ := ptr_inj he2
  obtain ⟨m, rfl⟩ : ∃ m, n = m + 1 := ⟨n - 1, by omega⟩
  have hp := way_hremove M W gb go k hA h (by omega) hk A hAr he oks
  have c7 := (hA _ _ _ hr).1
  have hm := at97
  simp [Yba.t97] at hm
  clear hA h oks he hr hx
  go_enter Yba.func46, Yba.ntmps46
  go_wp2_with (first | (go_at_call 87; refine (at_way _ _ _).mono ?_; rintro e w' ⟨rfl, rfl⟩) | (go_at_call 50; refine hp.mono ?_; rintro e w' ⟨⟨v, rfl⟩, hfin⟩))
  go_end0
  exact ⟨rfl, by omega, hfin⟩
end Go.Proofs.Ybulkdcoi
