/-
  (*inboundPlaces).open ON THE WHOLE STATE: a connection in a group of its own; one more of a named group.
-/
import Derived.Test.YbulkdcoiO
namespace Go.Proofs.Ybulkdcoi
open Go.RowKit
set_option linter.unusedVariables false

theorem emp_toList : (⟨#[]⟩ : ByteArray).toList.isEmpty = true := by simp

theorem ATailN.mono {w : World} {P cb gb go i kc K : Nat} {Q Q' : World → Prop} (h : ATailN w P cb gb go i kc K Q) (hq : ∀ w', Q w' → Q' w') : ATailN w P cb gb go i kc K Q' := by
  unfold ATailN at *
  exact Calls.mono h fun e w2 ⟨H, h1, h2, h3, w3, h4, h5, h6, h7, h8⟩ => ⟨H, h1, h2, h3, w3, h4, h5, h6, h7, fun q => ⟨fun hb => ((h8 q).1 hb).mono fun e w' ⟨a, b⟩ => ⟨a, hq w' b⟩, fun hb => ((h8 q).2 hb).mono fun e w' ⟨a, b⟩ => ⟨a, hq w' b⟩⟩⟩

theorem fs_open_own {g : Gst} {i K : Nat} {W : World} {M : Cel} (h : Fas g i K W M) {cb : Nat} (kc : g.kd cb = (1, i)) (hi : i ≤ 999) (hnr : g.nr ≤ 999) (hnu : g.nu ≤ 1000) (hkc : g.kc ≤ 1000) (c3 : M cb 3 = some (.string ⟨#[]⟩)) (nw : NewW M cb) (na : NewA M cb) :
    Calls Yba.prog 11 #[ptr g.s.P 0, ptr cb 0] W fun e w' => e = .returned (.tuple #[]) ∧ ONew g i K W M cb ⟨#[]⟩ w' := by
  obtain ⟨stc, wsc, asc, frc⟩ := h.count
  have kP := h.sh.kP
  have hPc : g.s.P ≠ cb := fun e => by rw [e, kc] at kP; simp at kP
  have hne : g.kd cb ≠ (0, 0) := by rw [kc]; simp
  have lP : g.s.P < W.heap.size := h.agr.lt h.p0
  have lc : cb < W.heap.size := h.agr.lt c3
  have lm1 : g.m1 < W.heap.size := h.ah.mp.lt
  refine open_own W g.s.P cb i g.kc K _ (by omega) hPc (Nat.lt_or_ge _ _) (h.agr _ _ _ h.p0).1 (h.agr _ _ _ h.p0).2 ?_
  refine (way_add_own wsc h.sh stc.agr kc (by omega) (by omega) (frc _ _ _ c3 hne) (nw.fr fun o v hv => frc _ _ _ hv hne)).mono fun e w1 ⟨he, hw⟩ => ⟨he, ?_⟩
  obtain ⟨kd1, M1, hr1, f, gbw, gow, m2', nn', f2', sx1, hk1, ws1, fr1, e0, e1, e2, e3, hcase, hm2'⟩ := hw
  have szc : (W.setCell ⟨g.s.P, 0, none⟩ (.int .i64 ((i : Int) + 1))).drew.heap.size = W.heap.size := by simp
  rw [szc] at hk1
  obtain ⟨rfl, rfl, rfl⟩ : m2' = g.m2 ∧ nn' = g.nn ∧ f2' = g.f2 := by
    rcases hcase with ⟨_, a, b, c⟩ | ⟨a, _⟩
    · exact ⟨a, b, c⟩
    · rw [emp_toList] at a; cases a
  have lt1 : W.heap.size ≤ w1.heap.size := by have := sx1.size; omega
  have cfr : ∀ o v, M cb o = some v → o ≤ 19 → M1 cb o = some v := fun o v hv ho => fr1 _ _ _ (frc _ _ _ hv hne) (by
    rw [kc]
    rintro (⟨a, _⟩ | ⟨_, a, _⟩ | a | a | a)
    · simp at a
    · omega
    all_goals simp at a)
  have na1 := na.fr cfr
  have hs1 : ShOk kd1 g.s i g.ng := h.ws.sh h.sh h.agr hk1
  have as1 : AS kd1 g.s g.E g.ag g.nm i g.ng g.m1 g.nn g.f1 g.hu g.nu g.kc K w1 M1 := (asc.kdx stc.agr (fun b hb => hk1 b (by omega))).keep hs1 (fun b o v hv ht _ => fr1 b o v hv (by
    have := stc.agr.lt hv
    rw [← hk1 b (by omega)]
    exact TA_not_TW ht)) sx1.shape (asc.mp.step stc.agr sx1 h.mm)
  obtain ⟨kd2, hkd⟩ : ∃ kd2, kd2 = kdA kd1 w1.heap.size w1.heap.size w1.heap.size i g.ng := ⟨_, rfl⟩
  have hk2 : ∀ b, b < w1.heap.size → kd2 b = kd1 b := fun b hb => by rw [hkd]; exact kdA_old _ _ _ _ _ _ hb
  have kf : kd2 w1.heap.size = (2, i) := by rw [hkd]; simp [kdA]
  have knew : ∀ b, w1.heap.size < b → kd2 b = (6, 0) := fun b hb => by
    have h1 : ¬ b < w1.heap.size := by omega
    have h2 : ¬ b = w1.heap.size := by omega
    rw [hkd]; simp [kdA, h1, h2]
  have hk12 : ∀ b, b < W.heap.size → kd2 b = g.kd b := fun b hb => (hk2 b (by omega)).trans (hk1 b hb)
  have kc2 : kd2 cb = (1, i) := (hk12 cb lc).trans kc
  have hs2 : ShOk kd2 g.s i g.ng := h.ws.sh h.sh h.agr hk12
  have p01 : M1 g.s.P 0 = some (.int .i64 ((i : Int) + 1)) := fr1 _ _ _ (up_same _ _ _ _) (by
    rw [kP]
    rintro (⟨_, a⟩ | ⟨a, _⟩ | a | a | a)
    · omega
    all_goals simp at a)
  refine ⟨(sx1.agr _ _ _ (cfr _ _ c3 (by omega))).1, ⟨⟨_, (sx1.agr _ _ _ na1.c8).1⟩, (sx1.agr _ _ _ na1.c8).2, ⟨_, (sx1.agr _ _ _ na1.c9).1⟩, (sx1.agr _ _ _ na1.c9).2, ⟨_, (sx1.agr _ _ _ na1.c11).1⟩, (sx1.agr _ _ _ na1.c11).2, (sx1.agr _ _ _ as1.p5).1, (sx1.agr _ _ _ as1.p5).2⟩, ?_⟩
  have nt := new_tail (gk := (1, i)) (st := ⟨#[]⟩) (cb := cb) (gb := cb) (go := 12) sx1.agr hs2 (ws1.kdx sx1.agr hk2) (as1.kdx sx1.agr hk2) kc2 (Or.inl ⟨rfl, rfl, rfl, rfl⟩) kc2 kf knew (by omega) hnu (by omega) hkc p01 na1.c8 na1.c9 na1.c10 na1.c11 na1.c12 na1.c13 na1.c14 na1.c17 na1.c18 na1.c19 (by rw [upd_eq, upd_eq]; exact e0) (by rw [upd_eq, upd_eq]; exact e1) (by rw [upd_eq, upd_eq]; exact e2)
  refine nt.mono fun w' np => onew_of h sx1.agr ((stc.sx _).trans (sx1.more fun k _ hx => Or.inr hx)) hk12 (fun b o v hv h8 => fr1 _ _ _ (frc _ _ _ hv (by intro e'; rw [e'] at h8; simp at h8)) (by
    rintro (⟨a, _⟩ | ⟨a, _⟩ | a | a | a)
    · rw [a] at h8; simp at h8
    all_goals omega)) (fun mb hmb => Or.inl hmb) kc2 lm1 (by simp) (Or.inl ⟨rfl, rfl, rfl, rfl, rfl⟩) np

theorem fs_open_old {g : Gst} {i K : Nat} {W : World} {M : Cel} (h : Fas g i K W M) {cb id : Nat} {st : ByteArray} (kc : g.kd cb = (1, i)) (hi : i ≤ 998) (hnr : g.nr ≤ 999) (hid : id < g.ng) (hnm : g.nm id = st) (hst : st.toList.isEmpty = false) (hst2 : st.size ≤ maxLen) (c3 : M cb 3 = some (.string st)) (nw : NewW M cb) (na : NewA M cb) :
    Calls Yba.prog 11 #[ptr g.s.P 0, ptr cb 0] W fun e w' => e = .returned (.tuple #[]) ∧ OOld g i K W M cb id w' := by
  obtain ⟨stc, wsc, asc, frc⟩ := h.count
  have kP := h.sh.kP
  have hPc : g.s.P ≠ cb := fun e => by rw [e, kc] at kP; simp at kP
  have hne : g.kd cb ≠ (0, 0) := by rw [kc]; simp
  have lP : g.s.P < W.heap.size := h.agr.lt h.p0
  have lc : cb < W.heap.size := h.agr.lt c3
  have stne : st ≠ ⟨#[]⟩ := fun e => by rw [e, emp_toList] at hst; cases hst
  obtain ⟨a1, a2, a3⟩ := h.n1 id hid (by rw [hnm]; exact stne)
  obtain ⟨b1, b2, b3⟩ := h.n2 id hid (by rw [hnm]; exact stne)
  rw [hnm] at a1 b1
  obtain ⟨mb, hmb⟩ : ∃ mb, g.m2 = some mb := by
    cases hm : g.m2 with
    | none =>
      have := (h.ws.mn hm).2 st.data.toList
      rw [b1] at this
      cases this
    | some mb => exact ⟨mb, rfl⟩
  have hsz := h.sh.sz1 id hid
  refine open_old W g.s.P cb (g.ag id).1 i (g.s.sz id + 1) g.m1 st _ (by omega) hPc hst (by omega) (by omega) (h.agr _ _ _ h.p0).1 (h.agr _ _ _ h.p0).2 ?_
  rw [hmb] at wsc
  refine (way_add_old wsc h.sh stc.agr kc (by omega) (by omega) hid (frc _ _ _ c3 hne) hst hst2 (nw.fr fun o v hv => frc _ _ _ hv hne) b1 b3 b2).mono fun e w1 ⟨he, hw⟩ => ⟨he, ?_⟩
  obtain ⟨kd1, M1, hr1, f, nr', sx1, hk1, ws1, fr1, hnr'⟩ := hw
  have szc : (W.setCell ⟨g.s.P, 0, none⟩ (.int .i64 ((i : Int) + 1))).drew.heap.size = W.heap.size := by simp
  rw [szc] at hk1
  have lt1 : W.heap.size ≤ w1.heap.size := by have := sx1.size; omega
  have cfr : ∀ o v, M cb o = some v → o ≤ 19 → M1 cb o = some v := fun o v hv ho => fr1 _ _ _ (frc _ _ _ hv hne) (by
    rw [kc]
    rintro (⟨a, _⟩ | ⟨_, a, _⟩ | a | a | a)
    · simp at a
    · omega
    all_goals simp at a)
  have na1 := na.fr cfr
  have hs1 : ShOk kd1 g.s i g.ng := h.ws.sh h.sh h.agr hk1
  have as1 : AS kd1 g.s g.E g.ag g.nm i g.ng g.m1 g.nn g.f1 g.hu g.nu g.kc K w1 M1 := (asc.kdx stc.agr (fun b hb => hk1 b (by omega))).keep hs1 (fun b o v hv ht _ => fr1 b o v hv (by
    have := stc.agr.lt hv
    rw [← hk1 b (by omega)]
    exact TA_not_TW ht)) sx1.shape (asc.mp.step stc.agr sx1 (by rw [← hmb]; exact h.mm))
  obtain ⟨kd2, hkd⟩ : ∃ kd2, kd2 = kdA kd1 w1.heap.size w1.heap.size w1.heap.size i g.ng := ⟨_, rfl⟩
  have hk2 : ∀ b, b < w1.heap.size → kd2 b = kd1 b := fun b hb => by rw [hkd]; exact kdA_old _ _ _ _ _ _ hb
  have kf : kd2 w1.heap.size = (2, i) := by rw [hkd]; simp [kdA]
  have hk12 : ∀ b, b < W.heap.size → kd2 b = g.kd b := fun b hb => (hk2 b (by omega)).trans (hk1 b hb)
  have kc2 : kd2 cb = (1, i) := (hk12 cb lc).trans kc
  have hs2 : ShOk kd2 g.s i g.ng := h.ws.sh h.sh h.agr hk12
  have p01 : M1 g.s.P 0 = some (.int .i64 ((i : Int) + 1)) := fr1 _ _ _ (up_same _ _ _ _) (by
    rw [kP]
    rintro (⟨_, a⟩ | ⟨a, _⟩ | a | a | a)
    · omega
    all_goals simp at a)
  have as2 := as1.kdx sx1.agr hk2
  have ws2 := ws1.kdx sx1.agr hk2
  have lag : (g.ag id).1 < W.heap.size := h.agr.lt (h.ah.g.g0 id hid)
  have k4 : kd2 (g.ag id).1 = (4, id) := (hk12 _ lag).trans a2
  have hla := hs2.la_ id hid
  have hl : Lst M1 (g.ag id).1 1 (g.E (g.s.fi id)) (g.E (g.s.la id)) (g.s.sz id) := by
    have g1 := as2.g.g1 id hid
    have g2 := as2.g.g2 id hid
    have g5 := as2.g.g5 id hid
    have e0 := as2.g.e0 id hid
    rw [a3] at g1 g2 g5 e0
    refine Or.inr (Or.inr ⟨by omega, fun e' => ?_, g1, g2, e0, g5⟩)
    have := as2.g.kE _ hla.1
    rw [e', k4] at this
    simp at this
  have hs3 := hs2.old (cb := cb) hid kc2
  refine ⟨(sx1.agr _ _ _ (cfr _ _ c3 (by omega))).1, (sx1.agr _ _ _ as1.p3).1, fun q => ?_, ⟨⟨_, (sx1.agr _ _ _ na1.c8).1⟩, (sx1.agr _ _ _ na1.c8).2, ⟨_, (sx1.agr _ _ _ na1.c9).1⟩, (sx1.agr _ _ _ na1.c9).2, ⟨_, (sx1.agr _ _ _ na1.c11).1⟩, (sx1.agr _ _ _ na1.c11).2, (sx1.agr _ _ _ as1.p5).1, (sx1.agr _ _ _ as1.p5).2⟩, fun q => ?_⟩
  · have hm : Mp (w1.drewN q) g.m1 g.nn g.f1 := as1.mp.block rfl
    have := hm.look Yba.underlying118 (Yba.zeroValue86 _) st hst2
    rw [a1] at this
    exact this
  · unfold ATailO
    have hAq : Agr (w1.drewN q) M1 := sx1.agr
    refine (age_tail kd2 (w1.drewN q) M1 g.s.P cb (g.ag id).1 0 (g.E (g.s.fi id)) (g.E (g.s.la id)) (g.s.sz id) i (g.s.la id) (4, id) _ _ _ _ hAq hs2.kP kc2 (Or.inr ⟨id, rfl, rfl⟩) k4 (Or.inl ⟨by omega, as2.g.kE _ hla.1⟩) (by omega) na1.c8 na1.c9 na1.c10 na1.c11 as2.p5 hl).mono fun e w2 ⟨he, k10, y10, M3, st3, ad, q5, fr3⟩ => ⟨w1.heap.size, he, ⟨_, k10⟩, y10, _, rfl, ?_⟩
    replace st3 : Stp w1 M1 (w2.setCell ⟨cb, 10, none⟩ (ptr w1.heap.size 0)) M3 := ((Stp.refl sx1.agr).drewN q).trans st3
    generalize w2.setCell ⟨cb, 10, none⟩ (ptr w1.heap.size 0) = w3 at *
    have nT : ∀ b o, KU kd2 b o ∨ arrB g.hu b ∨ (b = g.s.P ∧ o ≠ 5) ∨ TWc (kd2 b) o ∨ (kd2 b).1 = 8 → ¬ Ta (4, id) 0 (g.s.la id) i (kd2 b) o := by
      intro b o hin hT
      have hta := Ta_sub (gk := (4, id)) (Or.inr rfl) hT
      rcases hin with hin | hin | ⟨rfl, hin⟩ | hin | hin
      · rcases hT with ⟨a, a2, a3⟩ | ⟨a, a2⟩ | ⟨a, a2⟩ | ⟨a, a2⟩ <;> rcases hin with ⟨c, c2⟩ | ⟨c, c2⟩ <;> first | omega | (rw [a] at c; simp at c)
      · rw [as2.karr b hin] at hT
        rcases hT with ⟨a, _⟩ | ⟨a, _⟩ | ⟨a, _⟩ | ⟨a, _⟩ <;> simp at a
      · rw [hs2.kP] at hT
        rcases hT with ⟨a, _⟩ | ⟨a, _⟩ | ⟨a, a2⟩ | ⟨a, _⟩
        · simp at a
        · simp at a
        · exact hin a2
        · simp at a
      · exact TA_not_TW hta hin
      · rcases hT with ⟨a, _⟩ | ⟨a, _⟩ | ⟨a, _⟩ | ⟨a, _⟩ <;> rw [a] at hin <;> simp at hin
    have ag3 := as2.g.old hs2 (cb := cb) hid k4 a3 kf (fun b o v hv _ hT => fr3 b o v hv hT) ad
    have pf : ∀ o v, o ≠ 5 → M1 g.s.P o = some v → M3 g.s.P o = some v := fun o v ho hv => fr3 _ _ _ hv (nT _ _ (Or.inr (Or.inr (Or.inl ⟨rfl, ho⟩))))
    have ws3 := ws2.keep hs3 (w' := w3) (M' := M3) (fun b o v hv ht => fr3 b o v hv (nT b o (Or.inr (Or.inr (Or.inr (Or.inl ht)))))) st3.shape (fun mb hm hmp => hmp.step sx1.agr (st3.sx (fun _ => False)) (fun h => h))
    have e1 : ((i + 1 : Nat) : Int) = (i : Int) + 1 := by omega
    have as3 : AS kd2 (g.s.old i cb id) (upd g.E i w1.heap.size) g.ag g.nm (i + 1) g.ng g.m1 g.nn g.f1 g.hu g.nu g.kc K w3 M3 := by
      refine ⟨ag3, pf 1 _ (by omega) as2.p1, pf 2 _ (by omega) as2.p2, pf 3 _ (by omega) as2.p3, as2.mp.step sx1.agr (st3.sx (fun _ => False)) (fun h => h), ?_, as2.rk.keep st3.shape (fun _ _ => Iff.rfl) (fun b o v hv hin => fr3 b o v hv (nT b o ?_)), as2.karr, fun d hd hw => fr3 _ _ _ (as2.r0 d hd hw) (nT _ _ (Or.inl (KM_KU as2.g hs2 hd)))⟩
      · rw [e1]
        exact q5
      · rcases hin with ⟨xb, xo, ⟨d, hd, _, he'⟩, rfl, rfl⟩ | hin | ⟨rfl, rfl⟩
        · left
          have := KM_KU as2.g hs2 hd
          rw [he'] at this
          exact this
        · exact Or.inr (Or.inl hin)
        · exact Or.inr (Or.inr (Or.inl ⟨rfl, by omega⟩))
    refine ⟨?_, ⟨⟨kd2, g.s.old i cb id, upd g.F i f, g.wg, upd g.E i w1.heap.size, g.ag, g.nm, g.ng, g.m1, some mb, g.nn, g.f1, g.f2, g.hu, g.nu, hr1, nr', g.kc⟩, M3, ⟨((stc.sx _).trans (sx1.more fun k _ hx => Or.inr (hmb.trans hx))).trans (st3.sx _), ⟨st3.agr, hs3, ws3, as3, ?_, ?_, ?_, ?_, h.n3, ?_⟩, hk12, ?_, rfl, ?_⟩, rfl, rfl, rfl, rfl, rfl, rfl, hnr'⟩⟩
    · have := (st3.agr _ _ _ ad.g5).1
      have e2 : ((g.s.sz id + 1 : Nat) : Int) = (g.s.sz id : Int) + 1 := by omega
      rw [e2]
      exact this
    · show M3 g.s.P 0 = _
      rw [e1]
      exact pf 0 _ (by omega) p01
    · rw [← hmb]
      exact h.mm
    · intro d hd hne'
      obtain ⟨c1, c2, c3'⟩ := h.n1 d hd hne'
      exact ⟨c1, (hk12 _ (h.agr.lt (h.ah.g.g0 d hd))).trans c2, c3'⟩
    · intro d hd hne'
      obtain ⟨c1, c2, c3'⟩ := h.n2 d hd hne'
      exact ⟨c1, (hk12 _ (h.agr.lt (h.ws.g.g1 d hd))).trans c2, c3'⟩
    · intro d hd hne'
      have hfd := h.sh.fi_ d hd
      have h2 : (g.s.old i cb id).C (g.s.fi d) = g.s.C (g.s.fi d) := upd_ne _ _ (by omega)
      show g.ag d = ((g.s.old i cb id).C (g.s.fi d), 12)
      rw [h2]
      exact h.n4 d hd hne'
    · intro b o v hv h8
      refine fr3 b o v (fr1 _ _ _ (frc _ _ _ hv (by intro e'; rw [e'] at h8; simp at h8)) ?_) (nT b o (Or.inr (Or.inr (Or.inr (Or.inr (by rw [hk12 b (h.agr.lt hv)]; exact h8))))))
      rintro (⟨a, _⟩ | ⟨a, _⟩ | a | a | a)
      · rw [a] at h8; simp at h8
      all_goals omega
    · intro mb' e'
      left
      rw [hmb]
      exact e'
end Go.Proofs.Ybulkdcoi
