/-
  (*wayQueue).add ON THE WAY SIDE, WHOLE.
-/
import Derived.Test.YbulkdcoiWS
namespace Go.Proofs.Ybulkdcoi
open Go.RowKit
set_option linter.unusedVariables false

theorem WS.keep {kd : Nat → Nat × Nat} {s : Sh} {F : Nat → Nat} {wg : Nat → Nat × Nat} {i ng : Nat} {m2 : Option Nat} {nn : Nat} {f2 : List UInt8 → Option Nat} {hr : Option (Nat × Nat)} {nr : Nat} {W w' : World} {M M' : Cel} (h : WS kd s F wg i ng m2 nn f2 hr nr W M) (hs : ShOk kd s i ng)
    (fr : ∀ b o v, M b o = some v → TWc (kd b) o → M' b o = some v) (sh : ∀ k n t, Shp W k n t → Shp w' k n t) (hm : ∀ mb, m2 = some mb → Mp W mb nn f2 → Mp w' mb nn f2) : WS kd s F wg i ng m2 nn f2 hr nr w' M' := by
  have kP := hs.kP
  have wc : ∀ k o, Wcell k o → TWc k o := by
    rintro k o (⟨a, c, d⟩ | a | ⟨a, c⟩)
    · exact Or.inr (Or.inl ⟨a, c, by omega⟩)
    · exact Or.inr (Or.inr (Or.inl a))
    · exact Or.inr (Or.inr (Or.inr (Or.inl a)))
  have pc : ∀ o, 6 ≤ o → TWc (kd s.P) o := fun o ho => by
    rw [kP]
    exact Or.inl ⟨rfl, ho⟩
  have kr : ∀ b o, KM (MemR s wg ng) b o → TWc (kd b) o := by
    rintro b o ⟨xb, xo, ⟨id, hid, _, he⟩, rfl, rfl⟩
    have := KM_KR h.g hs hid
    rw [he] at this
    exact KR_sub this
  refine ⟨h.g.keep hs fun b o v hv hw => fr b o v hv (wc _ _ hw), fr _ _ _ h.p6 (pc 6 (by omega)), h.mn, fun mb e => hm mb e (h.ms mb e), fr _ _ _ h.p8 (pc 8 (by omega)), h.rk.keep sh (fun _ _ => Iff.rfl) fun b o v hv hin => fr b o v hv ?_, h.karr, fun id hid hw => fr _ _ _ (h.r0 id hid hw) (KR_sub (KM_KR h.g hs hid))⟩
  rcases hin with hin | hin | ⟨rfl, rfl⟩
  · exact kr b o hin
  · rw [h.karr b hin]
    exact Or.inr (Or.inr (Or.inr (Or.inr rfl)))
  · exact pc 7 (by omega)

theorem WS.kdx {kd kd' : Nat → Nat × Nat} {s : Sh} {F : Nat → Nat} {wg : Nat → Nat × Nat} {i ng : Nat} {m2 : Option Nat} {nn : Nat} {f2 : List UInt8 → Option Nat} {hr : Option (Nat × Nat)} {nr : Nat} {W : World} {M : Cel} (h : WS kd s F wg i ng m2 nn f2 hr nr W M) (hA : Agr W M) (hk : ∀ b, b < W.heap.size → kd' b = kd b) : WS kd' s F wg i ng m2 nn f2 hr nr W M :=
  ⟨h.g.kdx fun b o v hv => hk b (hA.lt hv), h.p6, h.mn, h.ms, h.p8, h.rk, fun b hb => (hk b (h.rk.arr_lt hA hb)).trans (h.karr b hb), h.r0⟩
theorem WS.sh {kd kd' : Nat → Nat × Nat} {s : Sh} {F : Nat → Nat} {wg : Nat → Nat × Nat} {i ng : Nat} {m2 : Option Nat} {nn : Nat} {f2 : List UInt8 → Option Nat} {hr : Option (Nat × Nat)} {nr : Nat} {W : World} {M : Cel} (h : WS kd s F wg i ng m2 nn f2 hr nr W M) (hs : ShOk kd s i ng) (hA : Agr W M) (hk : ∀ b, b < W.heap.size → kd' b = kd b) : ShOk kd' s i ng :=
  hs.kdx (hk _ (hA.lt h.p6)) fun j hj => hk _ (hA.lt (h.g.c20 j hj))

def WNew (kd : Nat → Nat × Nat) (s : Sh) (F : Nat → Nat) (wg : Nat → Nat × Nat) (i ng : Nat) (m2 : Option Nat) (nn : Nat) (f2 : List UInt8 → Option Nat) (nr : Nat) (W : World) (M : Cel) (cb : Nat) (st : ByteArray) (w' : World) : Prop :=
  ∃ kd' M' hr' f gb go m2' nn' f2', Sx (fun k => m2 = some k) W M w' M' ∧ (∀ b, b < W.heap.size → kd' b = kd b) ∧ WS kd' (s.new i cb ng) (upd F i f) (upd wg ng (gb, go)) (i + 1) (ng + 1) m2' nn' f2' hr' (nr + 1) w' M' ∧ (∀ b o v, M b o = some v → ¬ TWc (kd b) o → M' b o = some v) ∧
    M' f 0 = some (ptr gb (go + 2)) ∧ M' f 1 = some (ptr gb (go + 2)) ∧ M' f 2 = some (ptr gb (go + 2)) ∧ M' f 3 = some (.iface 139 (ptr cb 20)) ∧
    ((st = ⟨#[]⟩ ∧ m2' = m2 ∧ nn' = nn ∧ f2' = f2) ∨ (st.toList.isEmpty = false ∧ nn' = nn + 1 ∧ f2' = (fun l => if l = st.data.toList then some gb else f2 l) ∧ go = 0 ∧ W.heap.size ≤ gb)) ∧ (∀ mb, m2' = some mb → m2 = some mb ∨ W.heap.size ≤ mb)

theorem way_add_own {kd : Nat → Nat × Nat} {s : Sh} {F : Nat → Nat} {wg : Nat → Nat × Nat} {i ng : Nat} {m2 : Option Nat} {nn : Nat} {f2 : List UInt8 → Option Nat} {hr : Option (Nat × Nat)} {nr : Nat} {W : World} {M : Cel} (h : WS kd s F wg i ng m2 nn f2 hr nr W M) (hs : ShOk kd s i ng) (hA : Agr W M) {cb : Nat} (kc : kd cb = (1, i)) (hi : i ≤ 1000) (hnr : nr ≤ 1000)
    (c3 : M cb 3 = some (.string ⟨#[]⟩)) (nw : NewW M cb) : Calls Yba.prog 20 #[ptr s.P 6, ptr cb 20, ptr cb 0] W fun e w' => e = .returned (.tuple #[]) ∧ WNew kd s F wg i ng m2 nn f2 nr W M cb ⟨#[]⟩ w' := by
  obtain ⟨kd', hkd⟩ : ∃ kd', kd' = kdW kd W.heap.size W.heap.size W.heap.size i ng := ⟨_, rfl⟩
  have hk : ∀ b, b < W.heap.size → kd' b = kd b := fun b hb => by rw [hkd]; exact kdW_old _ _ _ _ _ _ hb
  have kf : kd' W.heap.size = (3, i) := by rw [hkd]; simp [kdW]
  have knew : ∀ b, W.heap.size < b → kd' b = (7, 0) := fun b hb => by
    have h1 : ¬ b < W.heap.size := by omega
    have h2 : ¬ b = W.heap.size := by omega
    rw [hkd]; simp [kdW, h1, h2]
  have h' := h.kdx hA hk
  have hs' := h.sh hs hA hk
  have kc' : kd' cb = (1, i) := (hk cb (hA.lt c3)).trans kc
  have hKR : ∀ b o, KM (Mem1 (MemR s wg ng) cb 24) b o → KR kd' b o := by
    rintro b o ⟨xb, xo, hx | ⟨rfl, rfl⟩, rfl, rfl⟩
    · obtain ⟨id, hid, _, he⟩ := hx
      have := KM_KR h'.g hs' hid
      rw [he] at this
      exact this
    · exact Or.inl ⟨by rw [kc'], rfl⟩
  have hmem : ¬ MemR s wg ng cb 24 := by
    rintro ⟨id, hid, _, he⟩
    have hfi := hs'.fi_ id hid
    rcases h'.g.kg id hid with e | ⟨e, _⟩
    · rw [he] at e
      have h1 := hs'.kC _ hfi.1
      rw [← show cb = s.C (s.fi id) by simpa using congrArg Prod.fst e, kc'] at h1
      simp at h1
      omega
    · rw [he] at e
      simp [kc'] at e
  have rkK := h'.rk.chK (K' := KM (Mem1 (MemR s wg ng) cb 24)) (fun gb go hm => ⟨gb, go, Or.inl hm, rfl, rfl⟩) (fun hK => by
    rcases hKR _ _ hK with ⟨h, _⟩ | ⟨h, _⟩ <;> rw [hs'.kP] at h <;> simp at h)
  refine (add_own kd' (KM (Mem1 (MemR s wg ng) cb 24)) W M (MemR s wg ng) s.P cb 0 i i nr hr _ _ _ _ _ _ hA hs'.kP kc' hi c3 nw.c20 nw.c21 nw.c22 nw.c23 nw.c25 nw.c26 nw.c27 nw.c30 h'.p8 rkK hKR ⟨cb, 24, Or.inr ⟨rfl, rfl⟩, rfl, rfl⟩ h'.karr hmem nw.c31 hnr ?_).mono fun e w' ⟨he, tp⟩ => ⟨he, ?_⟩
  · intro M' ad fr xb xo hx
    have g' := h'.g.new hs' (la := i) (fb := 0) (Or.inl ⟨rfl, rfl, rfl⟩) kc' kf (Nat.le_refl _) (fun b o v hv _ hT => fr b o v hv hT) ad
    have hm : MemR (s.new i cb ng) (upd wg ng (cb, 24)) (ng + 1) xb xo := by
      rcases hx with ⟨id, hid, hw, hx⟩ | ⟨rfl, rfl⟩
      · have hne : id ≠ ng := by omega
        refine ⟨id, by omega, ?_, by rw [upd_ne _ _ hne]; exact hx⟩
        have : want (s.new i cb ng) id = want s id := by simp [want, Sh.new, upd, hne]
        omega
      · exact ⟨ng, by omega, by simp [want, Sh.new, upd_eq], upd_eq _ _ _⟩
    refine (g'.ok (hs'.new kc') h'.karr hm).sub fun b o hr' => ?_
    rcases hr' with hr' | hr'
    · exact Or.inl (hKR b o hr')
    · exact Or.inr hr'
  · obtain ⟨M', hr', st, ws', fr, e0, e1, e2, e3⟩ := ws_new (W := W) hs' h'.g h'.karr h'.r0 h'.p6 ⟨_, h'.rk.hdr⟩ kc' (Or.inl ⟨rfl, rfl, rfl⟩) kc' kf knew (Nat.le_refl _) hA tp h'.mn h'.ms
    exact ⟨kd', M', hr', W.heap.size, cb, 24, m2, nn, f2, st.sx _, hk, ws', fun b o v hv hT => fr b o v hv (by rw [hk b (hA.lt hv)]; exact hT), e0, e1, e2, e3, Or.inl ⟨rfl, rfl, rfl, rfl⟩, fun mb hm => Or.inl hm⟩

def WOld (kd : Nat → Nat × Nat) (s : Sh) (F : Nat → Nat) (wg : Nat → Nat × Nat) (i ng : Nat) (m2 : Option Nat) (nn : Nat) (f2 : List UInt8 → Option Nat) (nr : Nat) (W : World) (M : Cel) (cb id : Nat) (w' : World) : Prop :=
  ∃ kd' M' hr' f nr', Sx (fun k => m2 = some k) W M w' M' ∧ (∀ b, b < W.heap.size → kd' b = kd b) ∧ WS kd' (s.old i cb id) (upd F i f) wg (i + 1) ng m2 nn f2 hr' nr' w' M' ∧ (∀ b o v, M b o = some v → ¬ TWc (kd b) o → M' b o = some v) ∧ (nr' = if 0 < want s id then nr else nr + 1)

theorem way_add_old {kd : Nat → Nat × Nat} {s : Sh} {F : Nat → Nat} {wg : Nat → Nat × Nat} {i ng : Nat} {mb nn : Nat} {f2 : List UInt8 → Option Nat} {hr : Option (Nat × Nat)} {nr : Nat} {W : World} {M : Cel} (h : WS kd s F wg i ng (some mb) nn f2 hr nr W M) (hs : ShOk kd s i ng) (hA : Agr W M) {cb id : Nat} {st : ByteArray} (kc : kd cb = (1, i)) (hi : i ≤ 1000) (hnr : nr ≤ 1000)
    (hid : id < ng) (c3 : M cb 3 = some (.string st)) (hst : st.toList.isEmpty = false) (hst2 : st.size ≤ maxLen) (nw : NewW M cb) (hf2 : f2 st.data.toList = some (wg id).1) (hn0 : (wg id).2 = 0) (hn5 : kd (wg id).1 = (5, id)) : Calls Yba.prog 20 #[ptr s.P 6, ptr cb 20, ptr cb 0] W fun e w' => e = .returned (.tuple #[]) ∧ WOld kd s F wg i ng (some mb) nn f2 nr W M cb id w' := by
  obtain ⟨kd', hkd⟩ : ∃ kd', kd' = kdW kd W.heap.size W.heap.size W.heap.size i ng := ⟨_, rfl⟩
  have hk : ∀ b, b < W.heap.size → kd' b = kd b := fun b hb => by rw [hkd]; exact kdW_old _ _ _ _ _ _ hb
  have kf : kd' W.heap.size = (3, i) := by rw [hkd]; simp [kdW]
  have knew : ∀ b, W.heap.size < b → kd' b = (7, 0) := fun b hb => by
    have h1 : ¬ b < W.heap.size := by omega
    have h2 : ¬ b = W.heap.size := by omega
    rw [hkd]; simp [kdW, h1, h2]
  have h' := h.kdx hA hk
  have hs' := h.sh hs hA hk
  have kc' : kd' cb = (1, i) := (hk cb (hA.lt c3)).trans kc
  have hg1 := h'.g.g1 id hid
  have hn5' : kd' (wg id).1 = (5, id) := (hk _ (hA.lt hg1)).trans hn5
  have hKR : ∀ b o, KM (Mem1 (MemR s wg ng) (wg id).1 0) b o → KR kd' b o := by
    rintro b o ⟨xb, xo, hx | ⟨rfl, rfl⟩, rfl, rfl⟩
    · obtain ⟨id, hid, _, he⟩ := hx
      have := KM_KR h'.g hs' hid
      rw [he] at this
      exact this
    · exact Or.inr ⟨by rw [hn5'], rfl⟩
  have rkK := h'.rk.chK (K' := KM (Mem1 (MemR s wg ng) (wg id).1 0)) (fun gb go hm => ⟨gb, go, Or.inl hm, rfl, rfl⟩) (fun hK => by
    rcases hKR _ _ hK with ⟨h, _⟩ | ⟨h, _⟩ <;> rw [hs'.kP] at h <;> simp at h)
  have hlook : ∀ q, (Instr.lookup 122 (.map (some mb)) (.string st) false).run Yba.prog (W.drewN q) = .ok (ptr (wg id).1 0) (W.drewN q) := fun q => by
    have hm : Mp (W.drewN q) mb nn f2 := (h.ms mb rfl).block rfl
    have := hm.look Yba.underlying122 (Yba.zeroValue97 _) st hst2
    rw [hf2] at this
    exact this
  have hw3 : want s id ≤ 1000 := by
    have := hs.sz1 id hid
    unfold want
    omega
  have hla := hs'.la_ id hid
  -- the list
  obtain ⟨fb, ab, hl, kab, hfb⟩ : ∃ fb ab, Lst M (wg id).1 2 fb ab (want s id) ∧ ((0 < want s id ∧ kd' ab = (3, s.la id)) ∨ W.heap.size ≤ ab) ∧ (0 < want s id → ∃ x, x < i ∧ fb = F x) := by
    by_cases hw : 0 < want s id
    · obtain ⟨⟨x, hx, h2⟩, h3, h0⟩ := h'.g.lst id hid hw
      have h6 := h'.g.g6 id hid
      rw [hn0] at h2 h3 h0 h6
      refine ⟨F x, F (s.la id), Or.inr (Or.inr ⟨hw, fun e => ?_, h2, h3, h0, h6⟩), Or.inl ⟨hw, h'.g.kF _ hla.1⟩, fun _ => ⟨x, hx, rfl⟩⟩
      have := h'.g.kF _ hla.1
      rw [e, hn5'] at this
      simp at this
    · obtain ⟨h2, h3⟩ := h'.g.emp id hid (by omega)
      have h6 := h'.g.g6 id hid
      rw [hn0] at h2 h3 h6
      refine ⟨0, W.heap.size, Or.inr (Or.inl ⟨by omega, h2, h3, ?_⟩), Or.inr (Nat.le_refl _), fun h => absurd h hw⟩
      rw [show want s id = 0 by omega] at h6
      exact h6
  have g7 : MemR s wg ng (wg id).1 0 ∨ (¬ MemR s wg ng (wg id).1 0 ∧ M (wg id).1 7 = some (.int .i64 0)) := by
    by_cases hw : 0 < want s id
    · exact Or.inl ⟨id, hid, hw, by rw [← hn0]⟩
    · refine Or.inr ⟨?_, ?_⟩
      · rintro ⟨d, hd, hw2, he⟩
        have : d = id := h'.g.inj hs' hd hid (by rw [he, ← hn0])
        subst this
        exact hw hw2
      · have := h'.r0 id hid (by omega)
        rw [hn0] at this
        exact this
  have g1' : M (wg id).1 1 = some (.int .i64 (s.sz id)) := by
    rw [hn0] at hg1
    exact hg1
  refine (add_named kd' (KM (Mem1 (MemR s wg ng) (wg id).1 0)) W M (MemR s wg ng) s.P cb (wg id).1 fb ab (want s id) i id (s.sz id) (s.la id) nr mb st hr _ _ _ _ hA hs'.kP kc' hn5' kab hi hw3 (by have := hs.sz1 id hid; omega) c3 hst h'.p6 hlook nw.c20 nw.c21 nw.c22 nw.c23 g1' hl h'.p8 rkK hKR ⟨(wg id).1, 0, Or.inr ⟨rfl, rfl⟩, rfl, rfl⟩ h'.karr g7 hnr ?_).mono fun e w' ⟨he, tp⟩ => ⟨he, ?_⟩
  · intro M' ad fr xb xo hx
    have g' := h'.g.old hs' (fb := fb) hid hn5' hn0 kf hfb (fun b o v hv _ hT => fr b o v hv hT) ad
    have hm : MemR (s.old i cb id) wg ng xb xo := by
      have wo : 0 < want (s.old i cb id) id := by
        have := (hs.sz1 id hid).1
        cases hkk : s.kp id <;> simp [want, Sh.old, upd, hkk] <;> omega
      rcases hx with ⟨d, hd, hw, hx⟩ | ⟨rfl, rfl⟩
      · by_cases e : d = id
        · subst e
          exact ⟨d, hd, wo, hx⟩
        · refine ⟨d, hd, ?_, hx⟩
          have : want (s.old i cb id) d = want s d := by
            show upd s.sz id (s.sz id + 1) d - _ = _
            rw [upd_ne _ _ e]
            rfl
          omega
      · exact ⟨id, hid, wo, by rw [← hn0]⟩
    refine (g'.ok (hs'.old hid kc') h'.karr hm).sub fun b o hr' => ?_
    rcases hr' with hr' | hr'
    · exact Or.inl (hKR b o hr')
    · exact Or.inr hr'
  · obtain ⟨M', hr', nr', st', ws', hn', fr⟩ := ws_old (W := W) hs' h'.g h'.karr h'.r0 h'.p6 ⟨_, h'.rk.hdr⟩ kc' hid hn5' hn0 hfb kf knew hA tp h'.mn h'.ms
    exact ⟨kd', M', hr', W.heap.size, nr', st'.sx _, hk, ws', fun b o v hv hT => fr b o v hv (by rw [hk b (hA.lt hv)]; exact hT), hn'⟩
end Go.Proofs.Ybulkdcoi
