/-
  (*wayQueue).rerank; THE TAIL OF (*wayQueue).add, told as the two calls in it.
-/
import Derived.Test.YbulkdcoiW
import Derived.Test.YbulkdcoiHB
namespace Go.Proofs.Ybulkdcoi
open Go.RowKit
set_option linter.unusedVariables false

set_option maxRecDepth 100000 in
set_option maxHeartbeats 1000000 in
/-- rerank of a group that holds some that could go. -/
theorem rerank_some (P gb go n : Nat) (W : World) (Q : World → Prop) (hn : n ≤ 100000) (h6 : W.cell? ⟨gb, go + 2 + 4, none⟩ = some (.int .i64 ((n : Int) + 1)))
    (hu : Calls Yba.prog 47 #[ptr P 7, ptr gb go] W fun e w' => e = .returned (.tuple #[]) ∧ Q w') : Calls Yba.prog 28 #[ptr P 6, ptr gb go] W fun e w' => e = .returned (.tuple #[]) ∧ Q w' := by
  have hl := len_walk gb (go + 2) _ W h6
  have hz : (n : Int) + 1 ≠ 0 := by omega
  go_enter Yba.func28, Yba.ntmps28
  go_wp2_with (first | (go_at_call 14; refine hl.mono ?_; rintro e w' ⟨rfl, rfl⟩) | (go_at_call 47; refine hu.mono ?_; rintro e w' ⟨rfl, hq⟩))
  go_end0
  exact ⟨rfl, hq⟩

set_option maxRecDepth 100000 in
set_option maxHeartbeats 1000000 in
/-- rerank of a group that holds none. -/
theorem rerank_none (P gb go : Nat) (W : World) (Q : World → Prop) (h6 : W.cell? ⟨gb, go + 2 + 4, none⟩ = some (.int .i64 0))
    (hu : Calls Yba.prog 46 #[ptr P 7, ptr gb go] W fun e w' => e = .returned (.tuple #[]) ∧ Q w') : Calls Yba.prog 28 #[ptr P 6, ptr gb go] W fun e w' => e = .returned (.tuple #[]) ∧ Q w' := by
  have hl := len_walk gb (go + 2) _ W h6
  go_enter Yba.func28, Yba.ntmps28
  go_wp2_with (first | (go_at_call 14; refine hl.mono ?_; rintro e w' ⟨rfl, rfl⟩) | (go_at_call 46; refine hu.mono ?_; rintro e w' ⟨rfl, hq⟩))
  (try simp only [Exit.inBlock, Exit.then]); refine bodyPost_ret (results_none rfl _ _ _) rfl ?_
  exact ⟨rfl, hq⟩

/-- What the tail leaves. -/
def TailPost (kd : Nat → Nat × Nat) (K : Nat → Nat → Prop) (W : World) (M : Cel) (Mem : Nat → Nat → Prop) (P cb gb go fb n i s1 la nr : Nat) (gk : Nat × Nat) (hr : Option (Nat × Nat)) (w' : World) : Prop :=
  ∃ M' hr' nr', Stp W M w' M' ∧ Added M' cb W.heap.size gb go n fb i s1 ∧ M' W.heap.size 1 = some (if n = 0 then ptr gb (go + 2) else (M' W.heap.size 1).getD undef) ∧ M' W.heap.size 2 = some (ptr gb (go + 2)) ∧ M' P 8 = some (.int .u64 ((i : Int) + 1)) ∧
    RkZ w' M' K (Mem1 Mem gb go) P 7 hr' nr' 97 ∧ ((Mem gb go ∧ nr' = nr) ∨ (¬ Mem gb go ∧ nr' = nr + 1)) ∧ Gr W hr hr' ∧ (∀ b, arrB hr' b → ¬ arrB hr b → W.heap.size < b) ∧
    (∀ b o v, M b o = some v → ¬ Tw gk go la i (kd b) o → ¬ K b o → ¬ arrB hr b → ¬ (b = P ∧ o = 7) → M' b o = some v)

theorem Gr.le {W w1 : World} {hd hd' : Option (Nat × Nat)} (h : Gr w1 hd hd') (hs : W.heap.size ≤ w1.heap.size) : Gr W hd hd' := by
  rcases h with h | ⟨A, cap, h, hA⟩
  · exact Or.inl h
  · exact Or.inr ⟨A, cap, h, by omega⟩

theorem way_tail (kd : Nat → Nat × Nat) (K : Nat → Nat → Prop) (W : World) (M : Cel) (Mem : Nat → Nat → Prop) (P cb gb go fb ab n i s0 la nr : Nat) (gk : Nat × Nat) (hr : Option (Nat × Nat)) (v20 v21 v22 v23 : Value) (hA : Agr W M)
    (kP : kd P = (0, 0)) (kc : kd cb = (1, i)) (kg : (gk = (1, i) ∧ gb = cb ∧ go = 24) ∨ ∃ id, gk = (5, id) ∧ go = 0) (hk : kd gb = gk) (kab : (0 < n ∧ kd ab = (3, la)) ∨ W.heap.size ≤ ab) (hn : n ≤ 1000)
    (c20 : M cb 20 = some v20) (c21 : M cb 21 = some v21) (c22 : M cb 22 = some v22) (c23 : M cb 23 = some v23) (g1 : M gb (go + 1) = some (.int .i64 s0)) (p8 : M P 8 = some (.int .u64 i)) (hl : Lst M gb (go + 2) fb ab n)
    (rk : RkZ W M K Mem P 7 hr nr 97) (hKR : ∀ b o, K b o → KR kd b o) (gK : K gb (go + 7)) (karr : ∀ b, arrB hr b → kd b = (7, 0)) (g7 : Mem gb go ∨ (¬ Mem gb go ∧ M gb (go + 7) = some (.int .i64 0))) (hnr : nr ≤ 1000)
    (oks : ∀ M', Added M' cb W.heap.size gb go n fb i (s0 + 1) → (∀ b o v, M b o = some v → ¬ Tw gk go la i (kd b) o → M' b o = some v) → ∀ xb xo, Mem1 Mem gb go xb xo → WayOkM (RZ K hr) M' xb xo) :
    Calls Yba.prog 21 #[ptr gb (go + 2), .iface 139 (ptr cb 20)] (((((W.setCell ⟨cb, 20, none⟩ (ptr cb 0)).setCell ⟨cb, 21, none⟩ (ptr gb go)).setCell ⟨gb, go + 1, none⟩ (.int .i64 ((s0 : Int) + 1))).setCell ⟨cb, 23, none⟩ (.int .u64 i)).setCell ⟨P, 8, none⟩ (.int .u64 ((i : Int) + 1))) fun e w1 =>
      e = .returned (ptr W.heap.size 0) ∧ w1.cell? ⟨cb, 22, none⟩ = some v22 ∧ w1.frozen? ⟨cb, 22, none⟩ = false ∧
      Calls Yba.prog 28 #[ptr P 6, ptr gb go] (w1.setCell ⟨cb, 22, none⟩ (ptr W.heap.size 0)) fun e w' => e = .returned (.tuple #[]) ∧ TailPost kd K W M Mem P cb gb go fb n i (s0 + 1) la nr gk hr w' := by
  have hcP : cb ≠ P := fun e => by rw [e, kP] at kc; simp at kc
  have hgP : gb ≠ P := fun e => by rw [e, kP] at hk; rcases kg with ⟨h, _, _⟩ | ⟨d, h, _⟩ <;> rw [← hk] at h <;> simp at h
  -- offsets in one block
  have hgc : gb = cb → go = 24 := fun e => by
    rcases kg with ⟨_, _, h⟩ | ⟨d, h, _⟩
    · exact h
    · rw [e, kc, h] at hk; simp at hk
  have gc : ∀ o k, o ≤ 6 → k ≤ 23 → (gb ≠ cb ∨ go + o ≠ k) := fun o k h1 h2 => by
    by_cases e : gb = cb
    · have := hgc e
      omega
    · exact Or.inl e
  have cg : ∀ o k, o ≤ 6 → k ≤ 23 → (cb ≠ gb ∨ k ≠ go + o) := fun o k h1 h2 => by
    by_cases e : cb = gb
    · have := hgc e.symm
      omega
    · exact Or.inl e
  have bc := hA.lt c20
  have bg := hA.lt g1
  have bP := hA.lt p8
  obtain ⟨M5, hM5⟩ : ∃ M5, M5 = up (up (up (up (up M cb 20 (ptr cb 0)) cb 21 (ptr gb go)) gb (go + 1) (.int .i64 ((s0 : Int) + 1))) cb 23 (.int .u64 i)) P 8 (.int .u64 ((i : Int) + 1)) := ⟨_, rfl⟩
  have s5 : Stp W M (((((W.setCell ⟨cb, 20, none⟩ (ptr cb 0)).setCell ⟨cb, 21, none⟩ (ptr gb go)).setCell ⟨gb, go + 1, none⟩ (.int .i64 ((s0 : Int) + 1))).setCell ⟨cb, 23, none⟩ (.int .u64 i)).setCell ⟨P, 8, none⟩ (.int .u64 ((i : Int) + 1))) M5 := by
    rw [hM5]
    have a1 := (Stp.refl hA).set c20 (ptr cb 0)
    have a2 := a1.set (b := cb) (o := 21) (u := v21) (by rw [up_other _ _ (Or.inr (by decide))]; exact c21) (ptr gb go)
    have a3 := a2.set (b := gb) (o := go + 1) (u := .int .i64 s0) (by rw [up_other _ _ (gc 1 _ (by omega) (by omega)), up_other _ _ (gc 1 _ (by omega) (by omega))]; exact g1) (.int .i64 ((s0 : Int) + 1))
    have a4 := a3.set (b := cb) (o := 23) (u := v23) (by rw [up_other _ _ (cg 1 _ (by omega) (by omega)), up_other _ _ (Or.inr (by decide)), up_other _ _ (Or.inr (by decide))]; exact c23) (.int .u64 i)
    exact a4.set (b := P) (o := 8) (u := .int .u64 i) (by rw [up_other _ _ (Or.inl (Ne.symm hcP)), up_other _ _ (Or.inl (Ne.symm hgP)), up_other _ _ (Or.inl (Ne.symm hcP)), up_other _ _ (Or.inl (Ne.symm hcP))]; exact p8) (.int .u64 ((i : Int) + 1))
  have f5 : ∀ b o, ¬ (b = cb ∧ (o = 20 ∨ o = 21 ∨ o = 23)) → ¬ (b = gb ∧ o = go + 1) → ¬ (b = P ∧ o = 8) → M5 b o = M b o := fun b o n1 n2 n3 => by
    rw [hM5, up_other _ _ (by omega), up_other _ _ (by omega), up_other _ _ (by omega), up_other _ _ (by omega), up_other _ _ (by omega)]
  have m20 : M5 cb 20 = some (ptr cb 0) := by
    rw [hM5, up_other _ _ (Or.inl hcP), up_other _ _ (Or.inr (by decide)), up_other _ _ (cg 1 _ (by omega) (by omega)), up_other _ _ (Or.inr (by decide)), up_same]
  have m21 : M5 cb 21 = some (ptr gb go) := by
    rw [hM5, up_other _ _ (Or.inl hcP), up_other _ _ (Or.inr (by decide)), up_other _ _ (cg 1 _ (by omega) (by omega)), up_same]
  have m23 : M5 cb 23 = some (.int .u64 i) := by rw [hM5, up_other _ _ (Or.inl hcP), up_same]
  have mg1 : M5 gb (go + 1) = some (.int .i64 ((s0 : Int) + 1)) := by
    rw [hM5, up_other _ _ (Or.inl hgP), up_other _ _ (gc 1 _ (by omega) (by omega)), up_same]
  have mP8 : M5 P 8 = some (.int .u64 ((i : Int) + 1)) := by rw [hM5, up_same]
  have g5 : ∀ o, (o = 2 ∨ o = 3 ∨ o = 6) → M5 gb (go + o) = M gb (go + o) := fun o ho => f5 _ _ (by
    rintro ⟨e, h⟩
    have := hgc e
    omega) (by omega) (fun h => hgP h.1)
  have sz5 : (((((W.setCell ⟨cb, 20, none⟩ (ptr cb 0)).setCell ⟨cb, 21, none⟩ (ptr gb go)).setCell ⟨gb, go + 1, none⟩ (.int .i64 ((s0 : Int) + 1))).setCell ⟨cb, 23, none⟩ (.int .u64 i)).setCell ⟨P, 8, none⟩ (.int .u64 ((i : Int) + 1))).heap.size = W.heap.size := by simp
  have hl5 : Lst M5 gb (go + 2) fb ab n := by
    rcases hl with ⟨h0, h1, ⟨v1, h2⟩, ⟨v4, h3⟩⟩ | ⟨h0, h1, h2, h3⟩ | ⟨h0, hd, h1, h2, ha, h3⟩
    · exact Or.inl ⟨h0, (g5 2 (by omega)).trans h1, ⟨v1, (g5 3 (by omega)).trans h2⟩, ⟨v4, (g5 6 (by omega)).trans h3⟩⟩
    · exact Or.inr (Or.inl ⟨h0, (g5 2 (by omega)).trans h1, (g5 3 (by omega)).trans h2, (g5 6 (by omega)).trans h3⟩)
    · exact Or.inr (Or.inr ⟨h0, hd, (g5 2 (by omega)).trans h1, (g5 3 (by omega)).trans h2, (f5 ab 0 (by omega) (by omega) (by omega)).trans ha, (g5 6 (by omega)).trans h3⟩)
  refine (push_any gb (go + 2) fb ab n 139 (ptr cb 20) _ M5 s5.agr (by omega) hl5).mono fun e w1 ⟨he, M6, s6, pd⟩ => ?_
  rw [sz5] at he pd
  have H0 : ∀ b, b < W.heap.size → b ≠ W.heap.size := fun b hb => Nat.ne_of_lt hb
  have c6 : ∀ o, o ≤ 23 → 0 < o → M6 cb o = M5 cb o := fun o ho h1 => pd.frame cb o bc (by
    rintro ⟨e, h⟩
    have := hgc e.symm
    omega) (by omega)
  have m22 : M6 cb 22 = some v22 := (c6 22 (by omega) (by omega)).trans ((f5 cb 22 (by omega) (by
    rintro ⟨e, h⟩
    have := hgc e.symm
    omega) (fun h => hcP h.1)).trans c22)
  have t6 := s5.trans s6
  have t7 := t6.set m22 (ptr W.heap.size 0)
  obtain ⟨M7, hM7⟩ : ∃ M7, M7 = up M6 cb 22 (ptr W.heap.size 0) := ⟨_, rfl⟩
  rw [← hM7] at t7
  have o7 : ∀ b o, (b ≠ cb ∨ o ≠ 22) → M7 b o = M6 b o := fun b o h => by rw [hM7, up_other _ _ h]
  have gb22 : ∀ o, o ≤ 6 → (gb ≠ cb ∨ go + o ≠ 22) := fun o ho => by
    by_cases e : gb = cb
    · have := hgc e
      omega
    · exact Or.inl e
  have ad : Added M7 cb W.heap.size gb go n fb i (s0 + 1) := by
    refine ⟨?_, ?_, ?_, ?_, ?_, ?_, ?_, ?_, ?_, ?_⟩
    · rw [o7 _ _ (Or.inr (by decide)), c6 20 (by omega) (by omega)]; exact m20
    · rw [o7 _ _ (Or.inr (by decide)), c6 21 (by omega) (by omega)]; exact m21
    · rw [hM7, up_same]
    · rw [o7 _ _ (Or.inr (by decide)), c6 23 (by omega) (by omega)]; exact m23
    · rw [o7 _ _ (Or.inl (Ne.symm (H0 _ bc)))]; exact pd.e0
    · rw [o7 _ _ (Or.inl (Ne.symm (H0 _ bc)))]; exact pd.e3
    · rw [o7 _ _ (gb22 1 (by omega)), pd.frame gb (go + 1) bg (by omega) (by
        rintro ⟨e, h⟩
        omega)]
      exact mg1
    · rw [o7 _ _ (gb22 2 (by omega))]; exact pd.next
    · rw [o7 _ _ (gb22 3 (by omega))]; exact pd.prev
    · rw [o7 _ _ (gb22 6 (by omega))]; exact pd.len
  have f7 : ∀ b o v, M b o = some v → ¬ Tw gk go la i (kd b) o → M7 b o = some v := fun b o v hv hT => by
    have hb := hA.lt hv
    have nc : ¬ (b = cb ∧ 20 ≤ o ∧ o ≤ 23) := fun h => hT (Or.inl ⟨by rw [h.1]; exact kc, h.2⟩)
    have ngb : ¬ (b = gb ∧ (o = go + 1 ∨ o = go + 2 ∨ o = go + 3 ∨ o = go + 6)) := fun h => hT (Or.inr (Or.inl ⟨by rw [h.1]; exact hk, h.2⟩))
    have nP : ¬ (b = P ∧ o = 8) := fun h => hT (Or.inr (Or.inr (Or.inl ⟨by rw [h.1]; exact kP, h.2⟩)))
    have nab : ¬ (b = ab ∧ o = 0) := fun h => by
      rcases kab with ⟨_, k⟩ | k
      · exact hT (Or.inr (Or.inr (Or.inr ⟨by rw [h.1]; exact k, h.2⟩)))
      · omega
    rw [o7 b o (by omega), pd.frame b o hb (by omega) nab, f5 b o (by omega) (by omega) nP]
    exact hv
  have m7P8 : M7 P 8 = some (.int .u64 ((i : Int) + 1)) := by
    rw [o7 _ _ (Or.inl (Ne.symm hcP)), pd.frame P 8 bP (fun h => hgP h.1.symm) (by omega)]
    exact mP8
  have rk7 : RkZ (w1.setCell ⟨cb, 22, none⟩ (ptr W.heap.size 0)) M7 K Mem P 7 hr nr 97 := rk.keep (fun k n t h => t7.shape k n t h) (fun _ _ => Iff.rfl) fun b o v hv hin => f7 b o v hv (by
    replace hin : KR kd b o ∨ arrB hr b ∨ (b = P ∧ o = 7) := by
      rcases hin with h | h
      · exact Or.inl (hKR _ _ h)
      · exact Or.inr h
    rcases hin with (⟨k1, k2⟩ | ⟨k1, k2⟩) | ha | ⟨rfl, rfl⟩
    · rintro (⟨e, _⟩ | ⟨e, h⟩ | ⟨e, _⟩ | ⟨e, _⟩)
      · omega
      · rw [e] at k1
        rcases kg with ⟨e1, _, e3⟩ | ⟨d, e1, e3⟩
        · omega
        · rw [e1] at k1; simp at k1
      · rw [e] at k1; simp at k1
      · rw [e] at k1; simp at k1
    · rintro (⟨e, _⟩ | ⟨e, h⟩ | ⟨e, _⟩ | ⟨e, _⟩)
      · rw [e] at k1; simp at k1
      · rw [e] at k1
        rcases kg with ⟨e1, _, e3⟩ | ⟨d, e1, e3⟩
        · rw [e1] at k1; simp at k1
        · omega
      · rw [e] at k1; simp at k1
      · rw [e] at k1; simp at k1
    · rw [karr b ha]
      rintro (⟨e, _⟩ | ⟨e, h⟩ | ⟨e, _⟩ | ⟨e, _⟩)
      · simp at e
      · rcases kg with ⟨e1, _, e3⟩ | ⟨d, e1, e3⟩ <;> rw [e1] at e <;> simp at e
      · simp at e
      · simp at e
    · rw [kP]
      rintro (⟨e, _⟩ | ⟨e, h⟩ | ⟨e, e2⟩ | ⟨e, _⟩)
      · simp at e
      · rcases kg with ⟨e1, _, e3⟩ | ⟨d, e1, e3⟩ <;> rw [e1] at e <;> simp at e
      · omega
      · simp at e)
  have ok7 := oks M7 ad f7
  have sz7 : W.heap.size ≤ (w1.setCell ⟨cb, 22, none⟩ (ptr W.heap.size 0)).heap.size := t7.size
  -- what a step outside the ranks leaves of what was added
  have fin : ∀ w' M' hr' nr', Stp (w1.setCell ⟨cb, 22, none⟩ (ptr W.heap.size 0)) M7 w' M' → RkZ w' M' K (Mem1 Mem gb go) P 7 hr' nr' 97 → ((Mem gb go ∧ nr' = nr) ∨ (¬ Mem gb go ∧ nr' = nr + 1)) → Gr W hr hr' → (∀ b, arrB hr' b → ¬ arrB hr b → W.heap.size < b) →
      (∀ b o v, M7 b o = some v → ¬ K b o → ¬ arrB hr b → ¬ (b = P ∧ o = 7) → M' b o = some v) → TailPost kd K W M Mem P cb gb go fb n i (s0 + 1) la nr gk hr w' := by
    intro w' M' hr' nr' st rk' hnr' hgr' hbig fr
    have na : ∀ b, (kd b).1 ≠ 7 → ¬ arrB hr b := fun b hb ha => by
      rw [karr b ha] at hb
      exact hb rfl
    have naH : ¬ arrB hr W.heap.size := fun ha => by
      have := rk.arr_lt hA ha
      omega
    have nag : ¬ arrB hr gb := na gb (by rw [hk]; rcases kg with ⟨e1, _, _⟩ | ⟨d, e1, _⟩ <;> rw [e1] <;> simp)
    have nac : ¬ arrB hr cb := na cb (by rw [kc]; simp)
    have naP : ¬ arrB hr P := na P (by rw [kP]; simp)
    have cc : ∀ o v, o ≤ 23 → M7 cb o = some v → M' cb o = some v := fun o v ho hv => fr _ _ _ hv (by
      intro hK
      rcases hKR _ _ hK with ⟨_, h⟩ | ⟨h, _⟩
      · omega
      · rw [kc] at h; simp at h) nac (fun h => hcP h.1)
    have gg : ∀ o v, o ≤ 6 → M7 gb (go + o) = some v → M' gb (go + o) = some v := fun o v ho hv => fr _ _ _ hv (by
      intro hK
      rcases hKR _ _ hK with ⟨h1, h⟩ | ⟨h1, h⟩
      · rcases kg with ⟨e1, _, e3⟩ | ⟨d, e1, e3⟩
        · omega
        · rw [hk, e1] at h1; simp at h1
      · rcases kg with ⟨e1, _, e3⟩ | ⟨d, e1, e3⟩
        · rw [hk, e1] at h1; simp at h1
        · omega) nag (fun h => hgP h.1)
    have HP : W.heap.size ≠ P := by omega
    have hh : ∀ o v, o ≤ 3 → M7 W.heap.size o = some v → M' W.heap.size o = some v := fun o v ho hv => fr _ _ _ hv (by
      intro hK
      rcases hKR _ _ hK with ⟨_, h⟩ | ⟨_, h⟩ <;> omega) naH (fun h => HP h.1)
    refine ⟨M', hr', nr', t7.trans st, ⟨cc _ _ (by omega) ad.c20, cc _ _ (by omega) ad.c21, cc _ _ (by omega) ad.c22, cc _ _ (by omega) ad.c23, hh _ _ (by omega) ad.f0, hh _ _ (by omega) ad.f3, gg 1 _ (by omega) ad.g1, gg 2 _ (by omega) ad.g2, gg 3 _ (by omega) ad.g3, gg 6 _ (by omega) ad.g6⟩, ?_, ?_, ?_, rk', hnr', hgr', hbig, fun b o v hv hT hK ha hP => fr b o v (f7 b o v hv hT) hK ha hP⟩
    · by_cases hz : n = 0
      · rw [if_pos hz]
        refine hh 1 _ (by omega) ?_
        rw [o7 _ _ (Or.inl (Ne.symm (H0 _ bc)))]
        exact pd.e1 hz
      · rw [if_neg hz]
        have : ∃ v, M7 W.heap.size 1 = some v := by
          rw [o7 _ _ (Or.inl (Ne.symm (H0 _ bc)))]
          exact pd.e1x
        obtain ⟨v, hv⟩ := this
        rw [hh 1 v (by omega) hv]
        rfl
    · refine hh 2 _ (by omega) ?_
      rw [o7 _ _ (Or.inl (Ne.symm (H0 _ bc)))]
      exact pd.e2
    · refine fr _ _ _ m7P8 ?_ naP (by omega)
      intro hK
      rcases hKR _ _ hK with ⟨h, _⟩ | ⟨h, _⟩ <;> rw [kP] at h <;> simp at h
  refine ⟨he, (t6.agr _ _ _ m22).1, (t6.agr _ _ _ m22).2, rerank_some P gb go n _ _ (by omega) ((t7.agr _ _ _ ad.g6).1) ?_⟩
  rcases g7 with hm | ⟨hm, h70⟩
  · refine (way_update_in M7 _ gb go t7.agr rk7 (by omega) hm fun xb xo hx => ok7 xb xo (Or.inl hx)).mono fun e w' ⟨he, M', st, rk', kp⟩ => ⟨he, ?_⟩
    refine fin w' M' hr nr st (rk'.keep (fun _ _ _ h => h) (fun xb xo => ⟨Or.inl, fun h => ?_⟩) fun b o v hv _ => hv) (Or.inl ⟨hm, rfl⟩) (Or.inl rfl) (fun b h1 h2 => absurd h1 h2) fun b o v hv hK ha _ => (kp b o ?_).trans hv
    · rcases h with h | ⟨rfl, rfl⟩
      · exact h
      · exact hm
    · rintro (h | h)
      · exact hK h
      · exact ha h
  · have h77 : M7 gb (go + 7) = some (.int .i64 0) := f7 _ _ _ h70 (by
      rw [hk]
      rintro (⟨e, h1, h2⟩ | ⟨e, h⟩ | ⟨e, e2⟩ | ⟨e, e2⟩)
      · rcases kg with ⟨e1, _, e3⟩ | ⟨d, e1, e3⟩
        · omega
        · rw [e1] at e; simp at e
      · omega
      · rcases kg with ⟨e1, _, e3⟩ | ⟨d, e1, e3⟩ <;> rw [e1] at e <;> simp at e
      · omega)
    have nag : ¬ arrB hr gb := fun ha => by
      have := karr gb ha
      rw [hk] at this
      rcases kg with ⟨e1, _, _⟩ | ⟨d, e1, _⟩ <;> rw [e1] at this <;> simp at this
    refine (way_update_new M7 _ gb go t7.agr rk7 (by omega) h77 gK nag hgP hm (fun xb xo hx => ok7 xb xo (Or.inl hx)) (ok7 gb go (Or.inr ⟨rfl, rfl⟩))).mono fun e w' ⟨he, M', hr', st, rk', fz, gr⟩ => ⟨he, ?_⟩
    have hbig : ∀ b, arrB hr' b → ¬ arrB hr b → W.heap.size < b := fun b h1 h2 => by
      have := t7.agr.lt ad.f0
      rcases gr with h | ⟨A, cap, h, hA⟩
      · rw [h] at h1
        exact absurd h1 h2
      · rw [h] at h1
        have := arrB_some.1 h1
        omega
    exact fin w' M' hr' (nr + 1) st rk' (Or.inr ⟨hm, rfl⟩) (gr.le sz7) hbig fun b o v hv hK ha hP => (fz b o (t7.agr.lt hv) hK ha hP).trans hv
end Go.Proofs.Ybulkdcoi
