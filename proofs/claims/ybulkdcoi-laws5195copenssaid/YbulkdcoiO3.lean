/-
  (*inboundPlaces).open ON THE WHOLE STATE: the first connection of a named group.
-/
import Derived.Test.YbulkdcoiO2
namespace Go.Proofs.Ybulkdcoi
open Go.RowKit
set_option linter.unusedVariables false

theorem fs_open_new {g : Gst} {i K : Nat} {W : World} {M : Cel} (h : Fas g i K W M) {cb : Nat} {st : ByteArray} (kc : g.kd cb = (1, i)) (hi : i ≤ 998) (hnr : g.nr ≤ 999) (hnu : g.nu ≤ 1000) (hkc : g.kc ≤ 1000) (hnn : g.nn ≤ 999) (hnew : ∀ id, id < g.ng → g.nm id ≠ st) (hst : st.toList.isEmpty = false) (hst2 : st.size ≤ maxLen) (c3 : M cb 3 = some (.string st)) (nw : NewW M cb) (na : NewA M cb) :
    Calls Yba.prog 11 #[ptr g.s.P 0, ptr cb 0] W fun e w' => e = .returned (.tuple #[]) ∧ ONew g i K W M cb st w' := by
  obtain ⟨stc, wsc, asc, frc⟩ := h.count
  have kP := h.sh.kP
  have hPc : g.s.P ≠ cb := fun e => by rw [e, kc] at kP; simp at kP
  have hne : g.kd cb ≠ (0, 0) := by rw [kc]; simp
  have lP : g.s.P < W.heap.size := h.agr.lt h.p0
  have lc : cb < W.heap.size := h.agr.lt c3
  have lm1 : g.m1 < W.heap.size := h.ah.mp.lt
  have stne : st ≠ ⟨#[]⟩ := fun e => by rw [e, emp_toList] at hst; cases hst
  obtain ⟨hf1, hf2⟩ := h.n3 st.data.toList (fun id hid _ => ne_toList (hnew id hid))
  refine open_new W g.s.P cb i g.m1 g.kc K st _ (by omega) hPc hst (Nat.lt_or_ge _ _) (h.agr _ _ _ h.p0).1 (h.agr _ _ _ h.p0).2 ?_
  refine (way_add_new wsc h.sh stc.agr kc (by omega) (by omega) hnn (frc _ _ _ c3 hne) hst hst2 (nw.fr fun o v hv => frc _ _ _ hv hne) hf2).mono fun e w1 ⟨he, hw⟩ => ⟨he, ?_⟩
  obtain ⟨kd1, M1, hr1, f, gbw, gow, m2', nn', f2', sx1, hk1, ws1, fr1, e0, e1, e2, e3, hcase, hm2'⟩ := hw
  have szc : (W.setCell ⟨g.s.P, 0, none⟩ (.int .i64 ((i : Int) + 1))).drew.heap.size = W.heap.size := by simp
  rw [szc] at hk1 hcase hm2'
  obtain ⟨rfl, rfl, rfl, hgbw⟩ : nn' = g.nn + 1 ∧ f2' = (fun l => if l = st.data.toList then some gbw else g.f2 l) ∧ gow = 0 ∧ W.heap.size ≤ gbw := by
    rcases hcase with ⟨a, _⟩ | ⟨_, a, b, c, d⟩
    · exact absurd a stne
    · exact ⟨a, b, c, d⟩
  have lt1 : W.heap.size ≤ w1.heap.size := by have := sx1.size; omega
  have cfr : ∀ o v, M cb o = some v → o ≤ 19 → M1 cb o = some v := fun o v hv ho => fr1 _ _ _ (frc _ _ _ hv hne) (by
    rw [kc]
    rintro (⟨a, _⟩ | ⟨_, a, _⟩ | a | a | a)
    · simp at a
    · omega
    all_goals simp at a)
  have na1 := na.fr cfr
  have hs1 : ShOk kd1 g.s i g.ng := h.ws.sh h.sh h.agr hk1
  have as1 : AS kd1 g.s g.E g.ag g.nm i g.ng g.m1 g.nn g.f1 g.hu g.nu g.kc K w1 M1 := (asc.kdx stc.agr (fun b hb => hk1 b (by omega))).keep hs1 (fun b o v hv ht _ => fr1 b o v hv (by
    have := stc.agr.lt hv
    rw [← hk1 b (by omega)]
    exact TA_not_TW ht)) sx1.shape (asc.mp.step stc.agr sx1 h.mm)
  have k5 : kd1 gbw = (5, g.ng) := by
    rcases ws1.g.kg g.ng (by omega) with e' | ⟨e', _⟩
    · rw [upd_eq] at e'
      simp at e'
    · rw [upd_eq] at e'
      exact e'
  have lgw : gbw < w1.heap.size := by
    have := ws1.g.g1 g.ng (by omega)
    rw [upd_eq] at this
    exact sx1.agr.lt this
  have p01 : M1 g.s.P 0 = some (.int .i64 ((i : Int) + 1)) := fr1 _ _ _ (up_same _ _ _ _) (by
    rw [kP]
    rintro (⟨_, a⟩ | ⟨a, _⟩ | a | a | a)
    · omega
    all_goals simp at a)
  refine ⟨(sx1.agr _ _ _ (cfr _ _ c3 (by omega))).1, (sx1.agr _ _ _ as1.p3).1, by omega, by omega, fun q => ?_, fun q => ?_⟩
  · have hm : Mp (w1.drewN q) g.m1 g.nn g.f1 := as1.mp.block rfl
    have := hm.look Yba.underlying118 (Yba.zeroValue86 _) st hst2
    rw [hf1] at this
    exact this
  · have s1 : Stp w1 M1 (((w1.drewN q).alloc (.cells (ageCells st) 94)).drew) (newB M1 w1.heap.size (ageCells st).toList) := (((Stp.refl sx1.agr).drewN q).new (ageCells st) 94).drew
    have hmA : Mp (((w1.drewN q).alloc (.cells (ageCells st) 94)).drew) g.m1 g.nn g.f1 := as1.mp.step sx1.agr (s1.sx (fun _ => False)) (fun h => h)
    have szA : (((w1.drewN q).alloc (.cells (ageCells st) 94)).drew).heap.size = w1.heap.size + 1 := by simp
    obtain ⟨w2, hrun, mp2, hg⟩ := hmA.put Yba.underlying118 (by omega) st hst2 hf1 w1.heap.size
    have sx2 : Sx (fun k => k = g.m1) _ _ w2 (newB M1 w1.heap.size (ageCells st).toList) := Sx.map s1.agr hmA.isMap hg rfl
    have hA2 := sx2.agr
    have sz2 : w1.heap.size + 1 ≤ w2.heap.size := by have := hg.size; omega
    obtain ⟨Ma, hMa⟩ : ∃ Ma, Ma = newB M1 w1.heap.size (ageCells st).toList := ⟨_, rfl⟩
    rw [← hMa] at s1 sx2 hA2
    have frA : ∀ b o v, M1 b o = some v → Ma b o = some v := fun b o v hv => by
      have := sx1.agr.lt hv
      rw [hMa, newB_other _ _ _ (by omega)]
      exact hv
    have hH : ∀ o, Ma w1.heap.size o = (ageCells st).toList[o]? := fun o => by rw [hMa, newB_same]
    obtain ⟨kd2, hkd⟩ : ∃ kd2, kd2 = kdA kd1 w1.heap.size w1.heap.size w2.heap.size i g.ng := ⟨_, rfl⟩
    have hk2 : ∀ b, b < w1.heap.size → kd2 b = kd1 b := fun b hb => by rw [hkd]; exact kdA_old _ _ _ _ _ _ hb
    have kf : kd2 w2.heap.size = (2, i) := by
      have h1 : ¬ w2.heap.size < w1.heap.size := by omega
      rw [hkd]; simp [kdA, h1]
    have kH : kd2 w1.heap.size = (4, g.ng) := by
      have h1 : ¬ w1.heap.size = w2.heap.size := by omega
      rw [hkd]; simp [kdA, h1]
    have knew : ∀ b, w2.heap.size < b → kd2 b = (6, 0) := fun b hb => by
      have h1 : ¬ b < w1.heap.size := by omega
      have h2 : ¬ b = w1.heap.size := by omega
      have h3 : ¬ b = w2.heap.size := by omega
      rw [hkd]; simp [kdA, h1, h2, h3]
    have hk12 : ∀ b, b < W.heap.size → kd2 b = g.kd b := fun b hb => (hk2 b (by omega)).trans (hk1 b hb)
    have kc2 : kd2 cb = (1, i) := (hk12 cb lc).trans kc
    have hs2 : ShOk kd2 g.s i g.ng := h.ws.sh h.sh h.agr hk12
    have hs2n : ShOk kd2 (g.s.new i cb g.ng) (i + 1) (g.ng + 1) := hs2.new kc2
    have shA : ∀ k n t, Shp w1 k n t → Shp w2 k n t := fun k n t hsh => sx2.shape k n t (s1.shape k n t hsh)
    have ws2 : WS kd2 (g.s.new i cb g.ng) (upd g.F i f) (upd g.wg g.ng (gbw, 0)) (i + 1) (g.ng + 1) m2' (g.nn + 1) (fun l => if l = st.data.toList then some gbw else g.f2 l) hr1 (g.nr + 1) w2 Ma := (ws1.kdx sx1.agr hk2).keep hs2n (fun b o v hv _ => frA b o v hv) shA (fun mb hm hmp => (hmp.step sx1.agr (s1.sx (fun k => k = g.m1)) (fun e' => by
      rcases hm2' mb hm with e2' | e2'
      · exact h.mm (by rw [e2', e'])
      · omega)).step s1.agr sx2 (fun e' => by
      rcases hm2' mb hm with e2' | e2'
      · exact h.mm (by rw [e2', e'])
      · omega))
    have as2 : AS kd2 g.s g.E g.ag g.nm i g.ng g.m1 (g.nn + 1) (fun l => if l = st.data.toList then some w1.heap.size else g.f1 l) g.hu g.nu g.kc K w2 Ma := (as1.kdx sx1.agr hk2).keep hs2 (fun b o v hv _ _ => frA b o v hv) shA mp2
    have na2 := na1.fr (M' := Ma) fun o v hv _ => frA _ _ _ hv
    refine ⟨w2, hrun, ⟨⟨_, (hA2 _ _ _ na2.c8).1⟩, (hA2 _ _ _ na2.c8).2, ⟨_, (hA2 _ _ _ na2.c9).1⟩, (hA2 _ _ _ na2.c9).2, ⟨_, (hA2 _ _ _ na2.c11).1⟩, (hA2 _ _ _ na2.c11).2, (hA2 _ _ _ as2.p5).1, (hA2 _ _ _ as2.p5).2⟩, ?_⟩
    have nt := new_tail (gk := (4, g.ng)) (st := st) (cb := cb) (gb := w1.heap.size) (go := 0) hA2 hs2 ws2 as2 kc2 (Or.inr ⟨rfl, rfl⟩) kH kf knew (by omega) hnu (by omega) hkc (frA _ _ _ p01) na2.c8 na2.c9 na2.c10 na2.c11 (hH 0) (hH 1) (hH 2) (hH 5) (hH 6) (hH 7) (by rw [upd_eq, upd_eq]; exact frA _ _ _ e0) (by rw [upd_eq, upd_eq]; exact frA _ _ _ e1) (by rw [upd_eq, upd_eq]; exact frA _ _ _ e2)
    refine nt.mono fun w' np => onew_of h hA2 (((stc.sx _).trans (sx1.more fun k _ hx => Or.inr hx)).trans ((s1.sx _).trans (sx2.more fun k _ hx => Or.inl hx))) hk12 (fun b o v hv h8 => frA _ _ _ (fr1 _ _ _ (frc _ _ _ hv (by intro e'; rw [e'] at h8; simp at h8)) (by
      rintro (⟨a, _⟩ | ⟨a, _⟩ | a | a | a)
      · rw [a] at h8; simp at h8
      all_goals omega))) hm2' kc2 lm1 (by rw [if_neg stne]) (Or.inr ⟨stne, rfl, rfl, kH, rfl, (hk2 _ lgw).trans k5, rfl, hnew⟩) np
end Go.Proofs.Ybulkdcoi
