/-
  (*wayQueue).add ON THE WAY SIDE: a named group that is new.
-/
import Derived.Test.YbulkdcoiWA
namespace Go.Proofs.Ybulkdcoi
open Go.RowKit
set_option linter.unusedVariables false

def WCore (kd : Nat → Nat × Nat) (s : Sh) (F : Nat → Nat) (wg : Nat → Nat × Nat) (i ng mb nn : Nat) (f2 : List UInt8 → Option Nat) (nr : Nat) (W : World) (M : Cel) (cb : Nat) (st : ByteArray) (w' : World) : Prop :=
  ∃ kd' M' hr' f, Sx (fun k => k = mb) W M w' M' ∧ (∀ b, b < W.heap.size → kd' b = kd b) ∧ WS kd' (s.new i cb ng) (upd F i f) (upd wg ng (W.heap.size, 0)) (i + 1) (ng + 1) (some mb) (nn + 1) (fun l => if l = st.data.toList then some W.heap.size else f2 l) hr' (nr + 1) w' M' ∧ (∀ b o v, M b o = some v → ¬ TWc (kd b) o → M' b o = some v) ∧
    M' f 0 = some (ptr W.heap.size 2) ∧ M' f 1 = some (ptr W.heap.size 2) ∧ M' f 2 = some (ptr W.heap.size 2) ∧ M' f 3 = some (.iface 139 (ptr cb 20))

theorem way_new_core {kd : Nat → Nat × Nat} {s : Sh} {F : Nat → Nat} {wg : Nat → Nat × Nat} {i ng : Nat} {mb nn : Nat} {f2 : List UInt8 → Option Nat} {hr : Option (Nat × Nat)} {nr : Nat} {W : World} {M : Cel} (h : WS kd s F wg i ng (some mb) nn f2 hr nr W M) (hs : ShOk kd s i ng) (hA : Agr W M) {cb : Nat} {st : ByteArray} (kc : kd cb = (1, i)) (hi : i ≤ 1000) (hnr : nr ≤ 1000) (hnn : nn ≤ 999)
    (c3 : M cb 3 = some (.string st)) (hst2 : st.size ≤ maxLen) (nw : NewW M cb) (hf2 : f2 st.data.toList = none) (q : Nat) :
    ∃ w2, (Instr.mapUpdate 122 (.map (some mb)) (.string st) (ptr W.heap.size 0)).run Yba.prog (((W.drewN q).alloc (.cells (wayCells st) 99)).drew) = .ok () w2 ∧ St5 w2 cb W.heap.size s.P i ∧ TailC w2 s.P cb W.heap.size i (WCore kd s F wg i ng mb nn f2 nr W M cb st) := by
  have s1 : Stp W M (((W.drewN q).alloc (.cells (wayCells st) 99)).drew) (newB M W.heap.size (wayCells st).toList) := (((Stp.refl hA).drewN q).new (wayCells st) 99).drew
  have hmA : Mp (((W.drewN q).alloc (.cells (wayCells st) 99)).drew) mb nn f2 := (h.ms mb rfl).step hA (s1.sx (fun _ => False)) (fun h => h)
  have szA : (((W.drewN q).alloc (.cells (wayCells st) 99)).drew).heap.size = W.heap.size + 1 := by simp
  obtain ⟨w2, hrun, mp2, hg⟩ := hmA.put Yba.underlying122 (by omega) st hst2 hf2 W.heap.size
  have sx2 : Sx (fun k => k = mb) _ _ w2 (newB M W.heap.size (wayCells st).toList) := Sx.map s1.agr hmA.isMap hg rfl
  have hA2 := sx2.agr
  have sz2 : W.heap.size + 1 ≤ w2.heap.size := by have := hg.size; omega
  obtain ⟨Ma, hMa⟩ : ∃ Ma, Ma = newB M W.heap.size (wayCells st).toList := ⟨_, rfl⟩
  rw [← hMa] at s1 sx2 hA2
  have frA : ∀ b o v, M b o = some v → Ma b o = some v := fun b o v hv => by
    have := hA.lt hv
    rw [hMa, newB_other _ _ _ (by omega)]
    exact hv
  have hH : ∀ o, Ma W.heap.size o = (wayCells st).toList[o]? := fun o => by rw [hMa, newB_same]
  obtain ⟨kd', hkd⟩ : ∃ kd', kd' = kdW kd W.heap.size W.heap.size w2.heap.size i ng := ⟨_, rfl⟩
  have hk : ∀ b, b < W.heap.size → kd' b = kd b := fun b hb => by rw [hkd]; exact kdW_old _ _ _ _ _ _ hb
  have kf : kd' w2.heap.size = (3, i) := by
    have h1 : ¬ w2.heap.size < W.heap.size := by omega
    rw [hkd]; simp [kdW, h1]
  have kH : kd' W.heap.size = (5, ng) := by
    have h1 : ¬ W.heap.size = w2.heap.size := by omega
    rw [hkd]; simp [kdW, h1]
  have knew : ∀ b, w2.heap.size < b → kd' b = (7, 0) := fun b hb => by
    have h1 : ¬ b < W.heap.size := by omega
    have h2 : ¬ b = W.heap.size := by omega
    have h3 : ¬ b = w2.heap.size := by omega
    rw [hkd]; simp [kdW, h1, h2, h3]
  have h' := h.kdx hA hk
  have hs' := h.sh hs hA hk
  have kc' : kd' cb = (1, i) := (hk cb (hA.lt c3)).trans kc
  have gA := h'.g.keep hs' (M' := Ma) fun b o v hv _ => frA b o v hv
  have r0A : ∀ id, id < ng → want s id = 0 → Ma (wg id).1 ((wg id).2 + 7) = some (.int .i64 0) := fun id hid hw => frA _ _ _ (h'.r0 id hid hw)
  have hKR : ∀ b o, KM (Mem1 (MemR s wg ng) W.heap.size 0) b o → KR kd' b o := by
    rintro b o ⟨xb, xo, hx | ⟨rfl, rfl⟩, rfl, rfl⟩
    · obtain ⟨id, hid, _, he⟩ := hx
      have := KM_KR h'.g hs' hid
      rw [he] at this
      exact this
    · exact Or.inr ⟨by rw [kH], rfl⟩
  have hmem : ¬ MemR s wg ng W.heap.size 0 := by
    rintro ⟨id, hid, _, he⟩
    have := hA.lt (h'.g.g1 id hid)
    rw [he] at this
    exact Nat.lt_irrefl _ this
  have rkA : RkZ w2 Ma (KM (Mem1 (MemR s wg ng) W.heap.size 0)) (MemR s wg ng) s.P 7 hr nr 97 := (h'.rk.keep (fun k n t hsh => sx2.shape k n t (s1.shape k n t hsh)) (fun _ _ => Iff.rfl) fun b o v hv _ => frA b o v hv).chK (fun gb go hm => ⟨gb, go, Or.inl hm, rfl, rfl⟩) (fun hK => by
    rcases hKR _ _ hK with ⟨h, _⟩ | ⟨h, _⟩ <;> rw [hs'.kP] at h <;> simp at h)
  have c20 := frA _ _ _ nw.c20
  have c21 := frA _ _ _ nw.c21
  have c22 := frA _ _ _ nw.c22
  have c23 := frA _ _ _ nw.c23
  have p8 := frA _ _ _ h'.p8
  have g1 : Ma W.heap.size 1 = some (.int .i64 0) := hH 1
  refine ⟨w2, hrun, ⟨⟨_, (hA2 _ _ _ c20).1⟩, (hA2 _ _ _ c20).2, ⟨_, (hA2 _ _ _ c21).1⟩, (hA2 _ _ _ c21).2, ⟨_, (hA2 _ _ _ c23).1⟩, (hA2 _ _ _ c23).2, (hA2 _ _ _ g1).1, (hA2 _ _ _ g1).2, (hA2 _ _ _ p8).1, (hA2 _ _ _ p8).2⟩, ?_⟩
  have tl := way_tail kd' (KM (Mem1 (MemR s wg ng) W.heap.size 0)) w2 Ma (MemR s wg ng) s.P cb W.heap.size 0 0 w2.heap.size 0 i 0 i nr (5, ng) hr _ _ _ _ hA2 hs'.kP kc' (Or.inr ⟨ng, rfl, rfl⟩) kH (Or.inr (Nat.le_refl _)) (by omega) c20 c21 c22 c23 g1 p8 (Or.inl ⟨rfl, hH 2, ⟨_, hH 3⟩, ⟨_, hH 6⟩⟩) rkA hKR ⟨W.heap.size, 0, Or.inr ⟨rfl, rfl⟩, rfl, rfl⟩ h'.karr (Or.inr ⟨hmem, hH 7⟩) hnr (by
    intro M' ad fr xb xo hx
    have g' := gA.new hs' (la := i) (fb := 0) (Or.inr ⟨rfl, rfl⟩) kH kf (Nat.le_refl _) (fun b o v hv _ hT => fr b o v hv hT) ad
    have hm : MemR (s.new i cb ng) (upd wg ng (W.heap.size, 0)) (ng + 1) xb xo := by
      rcases hx with ⟨id, hid, hw, hx⟩ | ⟨rfl, rfl⟩
      · have hne : id ≠ ng := by omega
        refine ⟨id, by omega, ?_, by rw [upd_ne _ _ hne]; exact hx⟩
        have : want (s.new i cb ng) id = want s id := by simp [want, Sh.new, upd, hne]
        omega
      · exact ⟨ng, by omega, by simp [want, Sh.new, upd_eq], upd_eq _ _ _⟩
    refine (g'.ok (hs'.new kc') h'.karr hm).sub fun b o hr' => ?_
    rcases hr' with hr' | hr'
    · exact Or.inl (hKR b o hr')
    · exact Or.inr hr')
  refine tl.mono fun e w1 ⟨h1, h2, h3, h4⟩ => ⟨h1, ⟨_, h2⟩, h3, h4.mono fun e w' ⟨h5, tp⟩ => ⟨h5, ?_⟩⟩
  obtain ⟨M', hr', st', ws', fr, e0, e1, e2, e3⟩ := ws_new (W := W) hs' gA h'.karr r0A (frA _ _ _ h'.p6) ⟨_, frA _ _ _ h'.rk.hdr⟩ kc' (Or.inr ⟨rfl, rfl⟩) kH kf knew (Nat.le_refl _) hA2 tp (fun e => by cases e) (fun mb' e => by cases e; exact mp2)
  refine ⟨kd', M', hr', w2.heap.size, ((s1.sx _).trans sx2).trans (st'.sx _), hk, ws', fun b o v hv hT => fr b o v (frA b o v hv) (by rw [hk b (hA.lt hv)]; exact hT), e0, e1, e2, e3⟩

theorem way_add_new {kd : Nat → Nat × Nat} {s : Sh} {F : Nat → Nat} {wg : Nat → Nat × Nat} {i ng : Nat} {m2 : Option Nat} {nn : Nat} {f2 : List UInt8 → Option Nat} {hr : Option (Nat × Nat)} {nr : Nat} {W : World} {M : Cel} (h : WS kd s F wg i ng m2 nn f2 hr nr W M) (hs : ShOk kd s i ng) (hA : Agr W M) {cb : Nat} {st : ByteArray} (kc : kd cb = (1, i)) (hi : i ≤ 1000) (hnr : nr ≤ 1000) (hnn : nn ≤ 999)
    (c3 : M cb 3 = some (.string st)) (hst : st.toList.isEmpty = false) (hst2 : st.size ≤ maxLen) (nw : NewW M cb) (hf2 : f2 st.data.toList = none) : Calls Yba.prog 20 #[ptr s.P 6, ptr cb 20, ptr cb 0] W fun e w' => e = .returned (.tuple #[]) ∧ WNew kd s F wg i ng m2 nn f2 nr W M cb st w' := by
  have hcP : s.P ≠ cb := fun e => by
    have := hs.kP
    rw [e, kc] at this
    simp at this
  have lc := hA.lt c3
  have lP := hA.lt h.p6
  have z : ∀ w : World, (zeroValue 97).run Yba.prog w = .ok (.pointer none) w := fun w => Yba.zeroValue97 w
  cases hm2 : m2 with
  | some mb =>
    subst hm2
    refine (add_new_c W s.P cb mb i st _ hi hcP hst (hA _ _ _ c3).1 (hA _ _ _ h.p6).1 (fun q => ?_) lc lP (way_new_core h hs hA kc hi hnr hnn c3 hst2 nw hf2)).mono fun e w' ⟨he, hq⟩ => ⟨he, ?_⟩
    · have hm : Mp (W.drewN q) mb nn f2 := (h.ms mb rfl).block rfl
      have := hm.look Yba.underlying122 (z _) st hst2
      rw [hf2] at this
      exact this
    · obtain ⟨kd', M', hr', f, sx, hk, ws, fr, e0, e1, e2, e3⟩ := hq
      exact ⟨kd', M', hr', f, W.heap.size, 0, some mb, nn + 1, _, sx.more (fun k _ hx => by rw [hx]), hk, ws, fr, e0, e1, e2, e3, Or.inr ⟨hst, rfl, rfl, rfl, Nat.le_refl _⟩, fun mb' e => Or.inl e⟩
  | none =>
    subst hm2
    obtain ⟨W0, hW0⟩ : ∃ W0, W0 = (W.setCell ⟨s.P, 6, none⟩ (.map (some W.heap.size))).alloc (.map #[] 0) := ⟨_, rfl⟩
    have a1 := (Stp.refl hA).set h.p6 (.map (some W.heap.size))
    have s0 : Stp W M W0 (up M s.P 6 (.map (some W.heap.size))) := by
      rw [hW0]
      exact a1.trans (Stp.obj a1.agr _)
    have sz0 : W0.heap.size = W.heap.size + 1 := by rw [hW0]; simp
    have hmp : Mp W0 W.heap.size 0 (fun _ => none) := by
      rw [hW0]
      have := Mp.made (W.setCell ⟨s.P, 6, none⟩ (.map (some W.heap.size)))
      rw [show (W.setCell ⟨s.P, 6, none⟩ (.map (some W.heap.size))).heap.size = W.heap.size by simp] at this
      exact this
    obtain ⟨hn0, hf0⟩ := h.mn rfl
    have hf2' : f2 = fun _ => none := funext hf0
    have fr0 : ∀ b o v, M b o = some v → ¬ (b = s.P ∧ o = 6) → up M s.P 6 (.map (some W.heap.size)) b o = some v := fun b o v hv hne => by
      rw [up_other _ _ (by omega)]
      exact hv
    have ws0 : WS kd s F wg i ng (some W.heap.size) nn f2 hr nr W0 (up M s.P 6 (.map (some W.heap.size))) := by
      have kP := hs.kP
      have nP : ∀ b o, Wcell (kd b) o ∨ KR kd b o ∨ arrB hr b → ¬ (b = s.P ∧ o = 6) := by
        rintro b o hw ⟨rfl, rfl⟩
        rcases hw with (⟨a, _, _⟩ | a | ⟨a, _⟩) | (⟨a, _⟩ | ⟨a, _⟩) | a
        · rw [kP] at a; simp at a
        · rw [kP] at a; simp at a
        · rw [kP] at a; simp at a
        · rw [kP] at a; simp at a
        · rw [kP] at a; simp at a
        · have := h.karr _ a
          rw [kP] at this; simp at this
      refine ⟨h.g.keep hs fun b o v hv hw => fr0 b o v hv (nP b o (Or.inl hw)), up_same _ _ _ _, (fun e => by cases e), (fun mb e => by cases e; rw [hn0, hf2']; exact hmp), fr0 _ _ _ h.p8 (by omega), h.rk.keep s0.shape (fun _ _ => Iff.rfl) fun b o v hv hin => fr0 b o v hv ?_, h.karr, fun id hid hw => fr0 _ _ _ (h.r0 id hid hw) (nP _ _ (Or.inr (Or.inl (KM_KR h.g hs hid))))⟩
      rcases hin with ⟨xb, xo, ⟨id, hid, _, he⟩, rfl, rfl⟩ | hin | ⟨rfl, rfl⟩
      · have := KM_KR h.g hs hid
        rw [he] at this
        exact nP _ _ (Or.inr (Or.inl this))
      · exact nP _ _ (Or.inr (Or.inr hin))
      · omega
    have kcP : ¬ (cb = s.P) := fun e => hcP e.symm
    have fc : ∀ o v, M cb o = some v → up M s.P 6 (.map (some W.heap.size)) cb o = some v := fun o v hv => fr0 cb o v hv (fun hh => kcP hh.1)
    have nw0 : NewW (up M s.P 6 (.map (some W.heap.size))) cb := ⟨fc _ _ nw.c20, fc _ _ nw.c21, fc _ _ nw.c22, fc _ _ nw.c23, fc _ _ nw.c25, fc _ _ nw.c26, fc _ _ nw.c27, fc _ _ nw.c30, fc _ _ nw.c31⟩
    refine (add_new_d W W0 s.P cb i st _ hi hcP hW0 hst (hA _ _ _ c3).1 (hA _ _ _ h.p6).1 (hA _ _ _ h.p6).2 (fun q => ?_) lc lP (way_new_core ws0 hs s0.agr kc hi hnr hnn (fc _ _ c3) hst2 nw0 hf2)).mono fun e w' ⟨he, hq⟩ => ⟨he, ?_⟩
    · have hm : Mp (W0.drewN q) W.heap.size 0 (fun _ => none) := hmp.block rfl
      exact hm.look Yba.underlying122 (z _) st hst2
    · obtain ⟨kd', M', hr', f, sx, hk, ws, fr, e0, e1, e2, e3⟩ := hq
      refine ⟨kd', M', hr', f, W0.heap.size, 0, some W.heap.size, nn + 1, _, ((s0.sx _).trans sx).more (fun k hk' hx => by omega), fun b hb => hk b (by omega), ws, fun b o v hv hT => fr b o v (fr0 b o v hv ?_) hT, e0, e1, e2, e3, Or.inr ⟨hst, rfl, rfl, rfl, by omega⟩, fun mb' e => by cases e; exact Or.inr (Nat.le_refl _)⟩
      rintro ⟨rfl, rfl⟩
      exact hT (by rw [hs.kP]; exact Or.inl ⟨rfl, by omega⟩)
end Go.Proofs.Ybulkdcoi
