/-
  (*wayQueue).spare OF A GROUP's ONLY CONNECTION.
-/
import Derived.Test.YbulkdcoiWB
namespace Go.Proofs.Ybulkdcoi
open Go.RowKit
set_option linter.unusedVariables false

set_option maxRecDepth 100000 in
set_option maxHeartbeats 2000000 in
theorem spare_raw (P cb gb go f : Nat) (W : World) (Q : World → Prop) (e22 : W.cell? ⟨cb, 22, none⟩ = some (ptr f 0)) (e21 : W.cell? ⟨cb, 21, none⟩ = some (ptr gb go))
    (hrem : Calls Yba.prog 51 #[ptr gb (go + 2), ptr f 0] W.drew fun e w1 => (∃ v, e = .returned v) ∧ (∃ v, w1.cell? ⟨cb, 22, none⟩ = some v) ∧ w1.frozen? ⟨cb, 22, none⟩ = false ∧ w1.cell? ⟨cb, 21, none⟩ = some (ptr gb go) ∧
      Calls Yba.prog 28 #[ptr P 6, ptr gb go] (w1.setCell ⟨cb, 22, none⟩ (.pointer none)) fun e w' => e = .returned (.tuple #[]) ∧ Q w') :
    Calls Yba.prog 32 #[ptr P 6, ptr cb 20] W fun e w' => e = .returned (.tuple #[]) ∧ Q w' := by
  go_enter Yba.func32, Yba.ntmps32
  go_wp2_with fail
  go_region_with (go_at_call 51; refine hrem.mono ?_; rintro e w1 ⟨⟨v, rfl⟩, ⟨v22, k22⟩, y22, k21, hrr⟩; clear hrem)
  all_goals (go_wp2_with (first | (go_at_call 28; refine hrr.mono ?_; rintro e w' ⟨rfl, hq⟩)))
  all_goals go_end0
  all_goals exact ⟨rfl, hq⟩

/-- The cells that spare touches, ranks aside. -/
def Tsp (gk : Nat × Nat) (go j : Nat) (k : Nat × Nat) (o : Nat) : Prop := (k = (1, j) ∧ o = 22) ∨ (k = gk ∧ (o = go + 2 ∨ o = go + 3 ∨ o = go + 6)) ∨ (k = (3, j) ∧ o ≤ 2)

theorem WG.spare {kd : Nat → Nat × Nat} {s : Sh} {F : Nat → Nat} {wg : Nat → Nat × Nat} {i ng : Nat} {M M' : Cel} (h : WG kd s F wg i ng M) (hs : ShOk kd s i ng) {id : Nat} (hid : id < ng) (hsz : s.sz id = 1) (hkp : s.kp id = false)
    (fr : ∀ b o v, M b o = some v → Wcell (kd b) o → ¬ Tsp (kd (wg id).1) (wg id).2 (s.fi id) (kd b) o → M' b o = some v)
    (c22 : M' (s.C (s.fi id)) 22 = some (.pointer none)) (g2 : M' (wg id).1 ((wg id).2 + 2) = some (ptr (wg id).1 ((wg id).2 + 2))) (g3 : M' (wg id).1 ((wg id).2 + 2 + 1) = some (ptr (wg id).1 ((wg id).2 + 2))) (g6 : M' (wg id).1 ((wg id).2 + 2 + 4) = some (.int .i64 0)) :
    WG kd (s.keep id) F wg i ng M' := by
  have hfi := hs.fi_ id hid
  have wo : want (s.keep id) id = 0 := by simp [want, Sh.keep, upd, hsz]
  have wn : ∀ d, d ≠ id → want (s.keep id) d = want s d := fun d hd => by simp [want, Sh.keep, upd, hd]
  have keyC : ∀ j o v, j < i → 20 ≤ o → o ≤ 23 → (j ≠ s.fi id ∨ o ≠ 22) → M (s.C j) o = some v → M' (s.C j) o = some v := fun j o v hj h1 h2 hne hv => fr _ _ _ hv (by rw [hs.kC j hj]; exact Or.inl ⟨rfl, h1, by omega⟩) (by
    rw [hs.kC j hj]
    rintro (⟨e, e2⟩ | ⟨e, e2⟩ | ⟨e, _⟩)
    · simp at e
      omega
    · rcases h.kg id hid with e3 | ⟨e3, e4⟩
      · rw [e3] at e2
        simp at e2
        omega
      · rw [e3] at e
        simp at e
    · simp at e)
  have keyF : ∀ j o v, j < i → (j ≠ s.fi id ∨ 3 ≤ o) → M (F j) o = some v → M' (F j) o = some v := fun j o v hj hne hv => fr _ _ _ hv (by rw [h.kF j hj]; exact Or.inr (Or.inl rfl)) (by
    rw [h.kF j hj]
    rintro (⟨e, e2⟩ | ⟨e, e2⟩ | ⟨e, e2⟩)
    · simp at e
    · rcases h.kg id hid with e3 | ⟨e3, e4⟩
      · rw [e3, hs.kC _ hfi.1] at e
        simp at e
      · rw [e3] at e
        simp at e
    · simp at e
      omega)
  have keyG : ∀ d o v, d < ng → o ≤ 6 → (d ≠ id ∨ o = 1) → M (wg d).1 ((wg d).2 + o) = some v → M' (wg d).1 ((wg d).2 + o) = some v := fun d o v hd h6 hne hv => by
    have hfd := hs.fi_ d hd
    refine fr _ _ _ hv ?_ ?_
    · rcases h.kg d hd with e | ⟨e, e0⟩
      · rw [e, hs.kC _ hfd.1]
        exact Or.inl ⟨rfl, by omega, by omega⟩
      · rw [e, e0]
        exact Or.inr (Or.inr ⟨rfl, by omega⟩)
    · rcases h.kg d hd with e | ⟨e, e0⟩
      · rw [e, hs.kC _ hfd.1]
        rintro (⟨e1, e2⟩ | ⟨e1, e2⟩ | ⟨e1, e2⟩)
        · simp at e2
          omega
        · rcases h.kg id hid with e3 | ⟨e3, e4⟩
          · rw [e3, hs.kC _ hfi.1] at e1
            rw [e3] at e2
            simp at e1 e2
            rcases hne with hne | hne
            · exact hne (by rw [← hfd.2, ← hfi.2, e1])
            · omega
          · rw [e3] at e1
            simp at e1
        · simp at e1
      · rw [e, e0]
        rintro (⟨e1, e2⟩ | ⟨e1, e2⟩ | ⟨e1, e2⟩)
        · simp at e1
        · rcases h.kg id hid with e3 | ⟨e3, e4⟩
          · rw [e3, hs.kC _ hfi.1] at e1
            simp at e1
          · rw [e3] at e1
            simp at e1
            rcases hne with hne | hne
            · exact hne e1
            · omega
        · simp at e1
  refine ⟨h.kF, h.kg, fun j hj => keyC _ _ _ hj (by omega) (by omega) (by omega) (h.c20 j hj), fun j hj => keyC _ _ _ hj (by omega) (by omega) (by omega) (h.c21 j hj), fun j hj => ?_, fun j hj => keyC _ _ _ hj (by omega) (by omega) (by omega) (h.c23 j hj), fun j hj => keyF _ _ _ hj (by omega) (h.f3 j hj), fun d hd => keyG d 1 _ hd (by omega) (Or.inr rfl) (h.g1 d hd), fun d hd => ?_, fun d hd hw => ?_, fun d hd hw => ?_⟩
  · by_cases e : j = s.fi id
    · subst e
      have : spd (s.keep id) (s.fi id) = true := by
        show (upd s.kp id true (s.gid (s.fi id)) && (s.fi (s.gid (s.fi id)) == s.fi id)) = true
        rw [hfi.2, upd_eq]
        simp
      rw [this]
      exact c22
    · have : spd (s.keep id) j = spd s j := by
        show (upd s.kp id true (s.gid j) && (s.fi (s.gid j) == j)) = (s.kp (s.gid j) && (s.fi (s.gid j) == j))
        by_cases e2 : s.gid j = id
        · have h2 : (s.fi (s.gid j) == j) = false := by
            rw [e2]
            simp
            exact fun e3 => e e3.symm
          rw [h2]
          simp
        · rw [upd_ne _ _ e2]
      rw [this]
      exact keyC _ _ _ hj (by omega) (by omega) (Or.inl e) (h.c22 j hj)
  · by_cases e : d = id
    · subst e
      rw [wo]
      exact g6
    · rw [wn d e]
      exact keyG d 6 _ hd (by omega) (Or.inl e) (h.g6 d hd)
  · by_cases e : d = id
    · subst e
      omega
    · rw [wn d e] at hw
      obtain ⟨⟨x, hx, hx2⟩, h3, h0⟩ := h.lst d hd hw
      have hla := hs.la_ d hd
      refine ⟨⟨x, hx, keyG d 2 _ hd (by omega) (Or.inl e) hx2⟩, keyG d 3 _ hd (by omega) (Or.inl e) h3, keyF _ _ _ hla.1 (Or.inl fun e2 => ?_) h0⟩
      have e2' : s.la d = s.fi id := e2
      rw [e2'] at hla
      exact e (hla.2.symm.trans hfi.2)
  · by_cases e : d = id
    · subst e
      exact ⟨g2, g3⟩
    · rw [wn d e] at hw
      obtain ⟨h1, h2⟩ := h.emp d hd hw
      exact ⟨keyG d 2 _ hd (by omega) (Or.inl e) h1, keyG d 3 _ hd (by omega) (Or.inl e) h2⟩

theorem way_spare {kd : Nat → Nat × Nat} {s : Sh} {F : Nat → Nat} {wg : Nat → Nat × Nat} {i ng : Nat} {m2 : Option Nat} {nn : Nat} {f2 : List UInt8 → Option Nat} {hr : Option (Nat × Nat)} {nr : Nat} {W : World} {M : Cel} (h : WS kd s F wg i ng m2 nn f2 hr nr W M) (hs : ShOk kd s i ng) (hA : Agr W M) {id : Nat} (hid : id < ng) (hsz : s.sz id = 1) (hkp : s.kp id = false) (hnr : nr ≤ 1000)
    (e0 : M (F (s.fi id)) 0 = some (ptr (wg id).1 ((wg id).2 + 2))) (e1 : M (F (s.fi id)) 1 = some (ptr (wg id).1 ((wg id).2 + 2))) (e2 : M (F (s.fi id)) 2 = some (ptr (wg id).1 ((wg id).2 + 2))) :
    Calls Yba.prog 32 #[ptr s.P 6, ptr (s.C (s.fi id)) 20] W fun e w' => e = .returned (.tuple #[]) ∧ 0 < nr ∧ ∃ M', Stp W M w' M' ∧ WS kd (s.keep id) F wg i ng m2 nn f2 hr (nr - 1) w' M' ∧ (∀ b o v, M b o = some v → ¬ TWc (kd b) o → M' b o = some v) := by
  have hfi := hs.fi_ id hid
  have hw : want s id = 1 := by simp [want, hsz, hkp]
  have kP := hs.kP
  have kj := hs.kC _ hfi.1
  have kF := h.g.kF _ hfi.1
  have c22 := h.g.c22 _ hfi.1
  have c21 := h.g.c21 _ hfi.1
  rw [hfi.2] at c21
  have hsp : spd s (s.fi id) = false := by
    unfold spd
    rw [hfi.2, hkp]
    rfl
  rw [hsp] at c22
  simp at c22
  obtain ⟨⟨x, hx, g2⟩, g3, _⟩ := h.g.lst id hid (by omega)
  have g6 := h.g.g6 id hid
  rw [hw] at g6
  have f3 := h.g.f3 _ hfi.1
  generalize hcb : s.C (s.fi id) = cb at *
  generalize hf : F (s.fi id) = f at *
  obtain ⟨gb, go, hgo⟩ : ∃ gb go, wg id = (gb, go) := ⟨_, _, rfl⟩
  have kg := h.g.kg id hid
  rw [hcb] at kg
  rw [hgo] at e0 e1 e2 c21 g2 g3 g6 kg
  simp only at e0 e1 e2 c21 g2 g3 g6 kg
  -- which block, which offset
  have kgb : (kd gb = (1, s.fi id) ∧ gb = cb ∧ go = 24) ∨ (kd gb = (5, id) ∧ go = 0) := by
    rcases kg with e | e
    · left
      simp at e
      exact ⟨by rw [e.1, kj], e.1, e.2⟩
    · exact Or.inr e
  have hgP : gb ≠ s.P := fun e => by
    rw [e, kP] at kgb
    rcases kgb with ⟨a, _, _⟩ | ⟨a, _⟩ <;> simp at a
  have hcP : cb ≠ s.P := fun e => by rw [e, kP] at kj; simp at kj
  have hfP : f ≠ s.P := fun e => by rw [e, kP] at kF; simp at kF
  have hfg : f ≠ gb := fun e => by
    rw [← e, kF] at kgb
    rcases kgb with ⟨a, _, _⟩ | ⟨a, _⟩ <;> simp at a
  have hfc : f ≠ cb := fun e => by rw [e, kj] at kF; simp at kF
  have hgc : gb = cb → go = 24 := fun e => by
    rcases kgb with ⟨_, _, a⟩ | ⟨a, _⟩
    · exact a
    · rw [e, kj] at a; simp at a
  refine spare_raw s.P cb gb go f W _ (hA _ _ _ c22).1 (hA _ _ _ c21).1 ?_
  refine (remove_one gb (go + 2) f 1 _ _ _ W.drew M hA (by omega) (by omega) hfg e0 e1 e2 f3 g2 g3 g6).mono fun e w1 ⟨v, he, st⟩ => ⟨⟨v, he⟩, ?_⟩
  obtain ⟨M1, hM1⟩ : ∃ M1, M1 = removed M gb (go + 2) f 1 := ⟨_, rfl⟩
  rw [← hM1] at st
  have o1 : ∀ b o, ¬ (b = gb ∧ (o = go + 2 ∨ o = go + 3 ∨ o = go + 6)) → ¬ (b = f ∧ o ≤ 2) → M1 b o = M b o := fun b o n1 n2 => by
    rw [hM1]
    unfold removed
    rw [up_other _ _ (by omega), up_other _ _ (by omega), up_other _ _ (by omega), up_other _ _ (by omega), up_other _ _ (by omega), up_other _ _ (by omega)]
  have m2g : M1 gb (go + 2) = some (ptr gb (go + 2)) := by
    rw [hM1]
    unfold removed
    rw [up_other _ _ (by omega), up_other _ _ (Or.inl (Ne.symm hfg)), up_other _ _ (Or.inl (Ne.symm hfg)), up_other _ _ (Or.inl (Ne.symm hfg)), up_other _ _ (by omega), up_same]
  have m3g : M1 gb (go + 2 + 1) = some (ptr gb (go + 2)) := by
    rw [hM1]
    unfold removed
    rw [up_other _ _ (by omega), up_other _ _ (Or.inl (Ne.symm hfg)), up_other _ _ (Or.inl (Ne.symm hfg)), up_other _ _ (Or.inl (Ne.symm hfg)), up_same]
  have m6g : M1 gb (go + 2 + 4) = some (.int .i64 0) := by
    rw [hM1]
    unfold removed
    rw [up_same]
    rfl
  have nc : ∀ o, o ≤ 23 → M1 cb o = M cb o := fun o ho => o1 cb o (by
    rintro ⟨e, h⟩
    have := hgc e.symm
    omega) (fun h => hfc h.1.symm)
  have m22 : M1 cb 22 = some (ptr f 0) := (nc 22 (by omega)).trans c22
  have m21 : M1 cb 21 = some (ptr gb go) := (nc 21 (by omega)).trans c21
  refine ⟨⟨_, (st.agr _ _ _ m22).1⟩, (st.agr _ _ _ m22).2, (st.agr _ _ _ m21).1, ?_⟩
  have st0 : Stp W M w1 M1 := (Stp.refl hA).drew.trans st
  have t2 := st0.set m22 (.pointer none)
  obtain ⟨M2, hM2⟩ : ∃ M2, M2 = up M1 cb 22 (.pointer none) := ⟨_, rfl⟩
  rw [← hM2] at t2
  have o2 : ∀ b o, (b ≠ cb ∨ o ≠ 22) → M2 b o = M1 b o := fun b o hh => by rw [hM2, up_other _ _ hh]
  have gc22 : ∀ o, 2 ≤ o → o ≤ 6 → (gb ≠ cb ∨ go + o ≠ 22) := fun o _ ho => by
    by_cases e : gb = cb
    · have := hgc e
      omega
    · exact Or.inl e
  have q2 : M2 gb (go + 2) = some (ptr gb (go + 2)) := (o2 _ _ (gc22 2 (by omega) (by omega))).trans m2g
  have q3 : M2 gb (go + 2 + 1) = some (ptr gb (go + 2)) := (o2 _ _ (gc22 3 (by omega) (by omega))).trans m3g
  have q6 : M2 gb (go + 2 + 4) = some (.int .i64 0) := (o2 _ _ (gc22 6 (by omega) (by omega))).trans m6g
  have q22 : M2 cb 22 = some (.pointer none) := by rw [hM2, up_same]
  have f2' : ∀ b o v, M b o = some v → ¬ Tsp (kd gb) go (s.fi id) (kd b) o → M2 b o = some v := fun b o v hv hT => by
    have n1 : ¬ (b = cb ∧ o = 22) := fun hh => hT (Or.inl ⟨by rw [hh.1, kj], hh.2⟩)
    have n2 : ¬ (b = gb ∧ (o = go + 2 ∨ o = go + 3 ∨ o = go + 6)) := fun hh => hT (Or.inr (Or.inl ⟨by rw [hh.1], hh.2⟩))
    have n3 : ¬ (b = f ∧ o ≤ 2) := fun hh => hT (Or.inr (Or.inr ⟨by rw [hh.1, kF], hh.2⟩))
    rw [o2 b o (by omega), o1 b o n2 n3]
    exact hv
  have wgS : WG kd (s.keep id) F wg i ng M2 := by
    refine h.g.spare hs hid hsz hkp (fun b o v hv _ hT => f2' b o v hv (by rw [hgo] at hT; exact hT)) ?_ ?_ ?_ ?_
    · rw [hcb]; exact q22
    · rw [hgo]; exact q2
    · rw [hgo]; exact q3
    · rw [hgo]; exact q6
  have hsK := hs.keep id
  have wn : ∀ d, d ≠ id → want (s.keep id) d = want s d := fun d hd => by simp [want, Sh.keep, upd, hd]
  have wo : want (s.keep id) id = 0 := by simp [want, Sh.keep, upd, hsz]
  have hKR : ∀ b o, KM (MemR s wg ng) b o → KR kd b o := by
    rintro b o ⟨xb, xo, ⟨d, hd, _, hx⟩, rfl, rfl⟩
    have := KM_KR h.g hs hd
    rw [hx] at this
    exact this
  -- ranks and rows lie outside what spare touches
  have nT : ∀ b o, KR kd b o ∨ arrB hr b ∨ (b = s.P ∧ 6 ≤ o) → ¬ Tsp (kd gb) go (s.fi id) (kd b) o := by
    rintro b o hin (⟨a, a2⟩ | ⟨a, a2⟩ | ⟨a, a2⟩)
    · rcases hin with (⟨c, c2⟩ | ⟨c, c2⟩) | c | ⟨rfl, c⟩
      · omega
      · rw [a] at c; simp at c
      · rw [h.karr b c] at a; simp at a
      · rw [kP] at a; simp at a
    · rcases hin with (⟨c, c2⟩ | ⟨c, c2⟩) | c | ⟨rfl, c⟩
      · rcases kgb with ⟨e, _, e3⟩ | ⟨e, e3⟩
        · omega
        · rw [a, e] at c; simp at c
      · rcases kgb with ⟨e, _, e3⟩ | ⟨e, e3⟩
        · rw [a, e] at c; simp at c
        · omega
      · rw [h.karr b c] at a
        rcases kgb with ⟨e, _, e3⟩ | ⟨e, e3⟩ <;> rw [e] at a <;> simp at a
      · rw [kP] at a
        rcases kgb with ⟨e, _, e3⟩ | ⟨e, e3⟩ <;> rw [e] at a <;> simp at a
    · rcases hin with (⟨c, c2⟩ | ⟨c, c2⟩) | c | ⟨rfl, c⟩
      · rw [a] at c; simp at c
      · rw [a] at c; simp at c
      · rw [h.karr b c] at a; simp at a
      · rw [kP] at a; simp at a
  have rk2 : RkZ (w1.setCell ⟨cb, 22, none⟩ (.pointer none)) M2 (KM (MemR s wg ng)) (MemR s wg ng) s.P 7 hr nr 97 := h.rk.keep t2.shape (fun _ _ => Iff.rfl) fun b o v hv hin => f2' b o v hv (nT b o (by
    rcases hin with hin | hin | ⟨rfl, rfl⟩
    · exact Or.inl (hKR b o hin)
    · exact Or.inr (Or.inl hin)
    · exact Or.inr (Or.inr ⟨rfl, by omega⟩)))
  have hgm : MemR s wg ng gb go := ⟨id, hid, by omega, hgo⟩
  have m0 : ∀ xb xo, MemR s wg ng xb xo → ¬ (xb = gb ∧ xo = go) → MemR (s.keep id) wg ng xb xo := by
    rintro xb xo ⟨d, hd, hw2, he2⟩ hne
    have : d ≠ id := by
      rintro rfl
      rw [hgo] at he2
      cases he2
      exact hne ⟨rfl, rfl⟩
    exact ⟨d, hd, by rw [wn d this]; exact hw2, he2⟩
  have m1 : ∀ xb xo, Mem0 (MemR s wg ng) gb go xb xo ↔ MemR (s.keep id) wg ng xb xo := by
    intro xb xo
    constructor
    · rintro ⟨h1, h2⟩
      exact m0 xb xo h1 h2
    · rintro ⟨d, hd, hw2, he2⟩
      have hne : d ≠ id := by
        rintro rfl
        omega
      rw [wn d hne] at hw2
      refine ⟨⟨d, hd, hw2, he2⟩, ?_⟩
      rintro ⟨rfl, rfl⟩
      exact hne (h.g.inj hs hd hid (he2.trans hgo.symm))
  refine rerank_none s.P gb go _ _ ((t2.agr _ _ _ q6).1) ?_
  refine (way_remove_in M2 _ gb go t2.agr rk2 (by omega) hgm fun xb xo hx hne => (wgS.ok hsK h.karr (m0 xb xo hx hne)).sub fun b o hr' => ?_).mono fun e w' ⟨he, hpos, M', st', rk', z', fz⟩ => ⟨he, hpos, M', t2.trans st', ?_, ?_⟩
  · rcases hr' with hr' | hr'
    · exact Or.inl (hKR b o hr')
    · exact Or.inr hr'
  · have f3' : ∀ b o v, M2 b o = some v → ¬ KM (MemR s wg ng) b o → ¬ arrB hr b → ¬ (b = s.P ∧ o = 7) → M' b o = some v := fun b o v hv h1 h2 h3 => (fz b o (t2.agr.lt hv) h1 h2 h3).trans hv
    have nKP : ∀ o, ¬ KM (MemR s wg ng) s.P o := fun o hK => by
      rcases hKR _ _ hK with ⟨a, _⟩ | ⟨a, _⟩ <;> rw [kP] at a <;> simp at a
    have naP : ¬ arrB hr s.P := fun ha => by
      have := h.karr _ ha
      rw [kP] at this
      simp at this
    have pf : ∀ o v, 6 ≤ o → o ≠ 7 → M s.P o = some v → M' s.P o = some v := fun o v ho hne hv => f3' _ _ _ (f2' _ _ _ hv (nT _ _ (Or.inr (Or.inr ⟨rfl, ho⟩)))) (nKP o) naP (by omega)
    refine ⟨wgS.keep hsK fun b o v hv hW => f3' b o v hv (fun hK => ?_) (fun ha => ?_) (fun hp => ?_), pf 6 _ (by omega) (by omega) h.p6, h.mn, fun mb e => ((h.ms mb e).step hA (t2.sx (fun _ => False)) (fun h => h)).step t2.agr (st'.sx (fun _ => False)) (fun h => h), pf 8 _ (by omega) (by omega) h.p8, (rk'.keep (fun _ _ _ h => h) m1 fun _ _ _ hv _ => hv).chK (fun gb' go' hm => ⟨gb', go', hm, rfl, rfl⟩) ?_, h.karr, fun d hd hw2 => ?_⟩
    · rcases hKR b o hK with ⟨a, c⟩ | ⟨a, c⟩ <;> rcases hW with ⟨a', c', d'⟩ | a' | ⟨a', c'⟩ <;> omega
    · rw [h.karr b ha] at hW
      rcases hW with ⟨a', c', d'⟩ | a' | ⟨a', c'⟩ <;> simp at a'
    · rw [hp.1, kP] at hW
      rcases hW with ⟨a', c', d'⟩ | a' | ⟨a', c'⟩ <;> simp at a'
    · rintro ⟨xb, xo, hx, ee1, ee2⟩
      exact nKP 7 ⟨xb, xo, ((m1 xb xo).2 hx).1, ee1, ee2⟩
    · by_cases e : d = id
      · subst e
        rw [hgo]
        exact z'
      · rw [wn d e] at hw2
        have hKRd := KM_KR h.g hs hd
        refine f3' _ _ _ (f2' _ _ _ (h.r0 d hd hw2) (nT _ _ (Or.inl hKRd))) ?_ ?_ ?_
        · rintro ⟨xb, xo, ⟨d', hd', hw', he'⟩, e1', e2'⟩
          have : d = d' := h.g.inj hs hd hd' (by rw [he', ← e1', show xo = (wg d).2 by omega])
          subst this
          omega
        · intro ha
          have := h.karr _ ha
          rcases hKRd with ⟨a, _⟩ | ⟨a, _⟩ <;> rw [this] at a <;> simp at a
        · rintro ⟨a, _⟩
          rcases hKRd with ⟨c, _⟩ | ⟨c, _⟩ <;> rw [a, kP] at c <;> simp at c
  · intro b o v hv hT
    refine (fz b o (t2.agr.lt (f2' b o v hv ?_)) ?_ ?_ ?_).trans (f2' b o v hv ?_)
    · rintro (⟨a, a2⟩ | ⟨a, a2⟩ | ⟨a, a2⟩)
      · exact hT (Or.inr (Or.inl ⟨by rw [a], by omega, by omega⟩))
      · rcases kgb with ⟨e, _, e3⟩ | ⟨e, e3⟩
        · exact hT (Or.inr (Or.inl ⟨by rw [a, e], by omega, by omega⟩))
        · exact hT (Or.inr (Or.inr (Or.inr (Or.inl (by rw [a, e])))))
      · exact hT (Or.inr (Or.inr (Or.inl (by rw [a]))))
    · exact fun hK => hT (KR_sub (hKR b o hK))
    · exact fun ha => hT (by rw [h.karr b ha]; exact Or.inr (Or.inr (Or.inr (Or.inr rfl))))
    · exact fun hp => hT (by rw [hp.1, kP]; exact Or.inl ⟨rfl, by omega⟩)
    · rintro (⟨a, a2⟩ | ⟨a, a2⟩ | ⟨a, a2⟩)
      · exact hT (Or.inr (Or.inl ⟨by rw [a], by omega, by omega⟩))
      · rcases kgb with ⟨e, _, e3⟩ | ⟨e, e3⟩
        · exact hT (Or.inr (Or.inl ⟨by rw [a, e], by omega, by omega⟩))
        · exact hT (Or.inr (Or.inr (Or.inr (Or.inl (by rw [a, e])))))
      · exact hT (Or.inr (Or.inr (Or.inl (by rw [a]))))
end Go.Proofs.Ybulkdcoi
