/-
  THE AGE SIDE OF THE PLACES, IN THE PURE MEMORY. No ranks here.
-/
import Derived.Test.YbulkdcoiW
namespace Go.Proofs.Ybulkdcoi
open Go.RowKit
set_option linter.unusedVariables false

structure AG (kd : Nat → Nat × Nat) (s : Sh) (E : Nat → Nat) (ag : Nat → Nat × Nat) (nm : Nat → ByteArray) (i ng : Nat) (M : Cel) : Prop where
  kE : ∀ j, j < i → kd (E j) = (2, j)
  kg : ∀ id, id < ng → (ag id = (s.C (s.fi id), 12) ∧ nm id = ⟨#[]⟩) ∨ (kd (ag id).1 = (4, id) ∧ (ag id).2 = 0)
  c8 : ∀ j, j < i → M (s.C j) 8 = some (ptr (s.C j) 0)
  c9 : ∀ j, j < i → M (s.C j) 9 = some (ptr (ag (s.gid j)).1 (ag (s.gid j)).2)
  c10 : ∀ j, j < i → M (s.C j) 10 = some (ptr (E j) 0)
  c11 : ∀ j, j < i → M (s.C j) 11 = some (.int .u64 j)
  e3 : ∀ j, j < i → M (E j) 3 = some (.iface 131 (ptr (s.C j) 8))
  g0 : ∀ id, id < ng → M (ag id).1 (ag id).2 = some (.string (nm id))
  g1 : ∀ id, id < ng → M (ag id).1 ((ag id).2 + 1) = some (ptr (E (s.fi id)) 0)
  g2 : ∀ id, id < ng → M (ag id).1 ((ag id).2 + 1 + 1) = some (ptr (E (s.la id)) 0)
  g5 : ∀ id, id < ng → M (ag id).1 ((ag id).2 + 1 + 4) = some (.int .i64 (s.sz id))
  g6 : ∀ id, id < ng → M (ag id).1 ((ag id).2 + 6) = some (.bool (s.kp id))
  e0 : ∀ id, id < ng → M (E (s.la id)) 0 = some (ptr (ag id).1 ((ag id).2 + 1))

/-- The cells that the age side's facts speak of. -/
def Acell (k : Nat × Nat) (o : Nat) : Prop := (k.1 = 1 ∧ 8 ≤ o ∧ o ≤ 18) ∨ k.1 = 2 ∨ (k.1 = 4 ∧ o ≤ 6)
def Ta (gk : Nat × Nat) (go la i : Nat) (k : Nat × Nat) (o : Nat) : Prop :=
  (k = (1, i) ∧ 8 ≤ o ∧ o ≤ 11) ∨ (k = gk ∧ (o = go + 1 ∨ o = go + 2 ∨ o = go + 5)) ∨ (k = (0, 0) ∧ o = 5) ∨ (k = (2, la) ∧ o = 0)

structure AAdded (M' : Cel) (cb f gb go n fb i : Nat) : Prop where
  c8 : M' cb 8 = some (ptr cb 0)
  c9 : M' cb 9 = some (ptr gb go)
  c10 : M' cb 10 = some (ptr f 0)
  c11 : M' cb 11 = some (.int .u64 i)
  f0 : M' f 0 = some (ptr gb (go + 1))
  f3 : M' f 3 = some (.iface 131 (ptr cb 8))
  g1 : M' gb (go + 1) = some (ptr (if n = 0 then f else fb) 0)
  g2 : M' gb (go + 1 + 1) = some (ptr f 0)
  g5 : M' gb (go + 1 + 4) = some (.int .i64 ((n : Int) + 1))

theorem AG.old {kd : Nat → Nat × Nat} {s : Sh} {E : Nat → Nat} {ag : Nat → Nat × Nat} {nm : Nat → ByteArray} {i ng : Nat} {M M' : Cel} (h : AG kd s E ag nm i ng M) (hs : ShOk kd s i ng) {cb f id : Nat} (hid : id < ng) (hn : kd (ag id).1 = (4, id)) (hn0 : (ag id).2 = 0) (kf : kd f = (2, i))
    (fr : ∀ b o v, M b o = some v → Acell (kd b) o → ¬ Ta (4, id) 0 (s.la id) i (kd b) o → M' b o = some v) (ad : AAdded M' cb f (ag id).1 0 (s.sz id) (E (s.fi id)) i) : AG kd (s.old i cb id) (upd E i f) ag nm (i + 1) ng M' := by
  have kC := hs.kC
  have keyC : ∀ j o v, j < i → 8 ≤ o → o ≤ 18 → M (s.C j) o = some v → M' (s.C j) o = some v := fun j o v hj h1 h2 hv => fr _ _ _ hv (by rw [kC j hj]; exact Or.inl ⟨rfl, h1, h2⟩) (by
    rw [kC j hj]
    simp [Ta]
    omega)
  have keyE : ∀ j o v, j < i → (j ≠ s.la id ∨ o ≠ 0) → M (E j) o = some v → M' (E j) o = some v := fun j o v hj hne hv => fr _ _ _ hv (by rw [h.kE j hj]; exact Or.inr (Or.inl rfl)) (by
    rw [h.kE j hj]
    simp [Ta]
    omega)
  have keyG : ∀ d o v, d < ng → (d ≠ id ∨ o = 0 ∨ o = 6) → o ≤ 6 → M (ag d).1 ((ag d).2 + o) = some v → M' (ag d).1 ((ag d).2 + o) = some v := fun d o v hd hne h6 hv => by
    rcases h.kg d hd with ⟨e, _⟩ | ⟨e, e0⟩
    · rw [e] at hv ⊢
      exact keyC _ _ _ (hs.fi_ d hd).1 (by omega) (by omega) hv
    · refine fr _ _ _ hv (by rw [e, e0]; exact Or.inr (Or.inr ⟨rfl, by omega⟩)) ?_
      rw [e, e0]
      simp [Ta]
      omega
  have gidn : ∀ j, j < i → (s.old i cb id).gid j = s.gid j := fun j hj => upd_ne _ _ (by omega)
  have gidi : (s.old i cb id).gid i = id := upd_eq _ _ _
  have Cn : ∀ j, j < i → (s.old i cb id).C j = s.C j := fun j hj => upd_ne _ _ (by omega)
  have Ci : (s.old i cb id).C i = cb := upd_eq _ _ _
  have En : ∀ j, j < i → upd E i f j = E j := fun j hj => upd_ne _ _ (by omega)
  have Ei : upd E i f i = f := upd_eq _ _ _
  have fin : (s.old i cb id).fi = s.fi := rfl
  have kpn : (s.old i cb id).kp = s.kp := rfl
  refine ⟨fun j hj => ?_, fun d hd => ?_, fun j hj => ?_, fun j hj => ?_, fun j hj => ?_, fun j hj => ?_, fun j hj => ?_, fun d hd => ?_, fun d hd => ?_, fun d hd => ?_, fun d hd => ?_, fun d hd => ?_, fun d hd => ?_⟩
  · by_cases e : j = i
    · subst e; rw [Ei]; exact kf
    · rw [En j (by omega)]; exact h.kE j (by omega)
  · rcases h.kg d hd with ⟨e, e2⟩ | e
    · left
      rw [e, fin, Cn _ (hs.fi_ d hd).1]
      exact ⟨rfl, e2⟩
    · exact Or.inr e
  · by_cases e : j = i
    · subst e; rw [Ci]; exact ad.c8
    · rw [Cn j (by omega)]; exact keyC _ _ _ (by omega) (by omega) (by omega) (h.c8 j (by omega))
  · by_cases e : j = i
    · subst e
      rw [Ci, gidi, ad.c9, hn0]
    · rw [Cn j (by omega), gidn j (by omega)]; exact keyC _ _ _ (by omega) (by omega) (by omega) (h.c9 j (by omega))
  · by_cases e : j = i
    · subst e; rw [Ci, Ei]; exact ad.c10
    · rw [Cn j (by omega), En j (by omega)]; exact keyC _ _ _ (by omega) (by omega) (by omega) (h.c10 j (by omega))
  · by_cases e : j = i
    · subst e; rw [Ci]; exact ad.c11
    · rw [Cn j (by omega)]; exact keyC _ _ _ (by omega) (by omega) (by omega) (h.c11 j (by omega))
  · by_cases e : j = i
    · subst e; rw [Ci, Ei]; exact ad.f3
    · rw [Cn j (by omega), En j (by omega)]; exact keyE _ _ _ (by omega) (Or.inr (by decide)) (h.e3 j (by omega))
  · exact keyG d 0 _ hd (by omega) (by omega) (h.g0 d hd)
  · rw [fin, En _ (hs.fi_ d hd).1]
    by_cases e : d = id
    · subst e
      rw [hn0]
      have := ad.g1
      rw [if_neg (by have := (hs.sz1 d hd).1; omega)] at this
      exact this
    · exact keyG d 1 _ hd (Or.inl e) (by omega) (h.g1 d hd)
  · by_cases e : d = id
    · subst e
      have la : (s.old i cb d).la d = i := upd_eq _ _ _
      rw [la, Ei, hn0]
      exact ad.g2
    · have la : (s.old i cb id).la d = s.la d := upd_ne _ _ e
      rw [la, En _ (hs.la_ d hd).1]
      exact keyG d 2 _ hd (Or.inl e) (by omega) (h.g2 d hd)
  · by_cases e : d = id
    · subst e
      have : (s.old i cb d).sz d = s.sz d + 1 := upd_eq _ _ _
      rw [this, hn0]
      exact ad.g5
    · have : (s.old i cb id).sz d = s.sz d := upd_ne _ _ e
      rw [this]
      exact keyG d 5 _ hd (Or.inl e) (by omega) (h.g5 d hd)
  · rw [kpn]
    exact keyG d 6 _ hd (by omega) (by omega) (h.g6 d hd)
  · by_cases e : d = id
    · subst e
      have la : (s.old i cb d).la d = i := upd_eq _ _ _
      rw [la, Ei, hn0]
      exact ad.f0
    · have la : (s.old i cb id).la d = s.la d := upd_ne _ _ e
      have hla := hs.la_ d hd
      have hla2 := hs.la_ id hid
      rw [la, En _ hla.1]
      refine keyE _ _ _ hla.1 (Or.inl fun h' => ?_) (h.e0 d hd)
      rw [h'] at hla
      omega

theorem AG.new {kd : Nat → Nat × Nat} {s : Sh} {E : Nat → Nat} {ag : Nat → Nat × Nat} {nm : Nat → ByteArray} {i ng : Nat} {M M' : Cel} (h : AG kd s E ag nm i ng M) (hs : ShOk kd s i ng) {cb f gb go fb la : Nat} {gk : Nat × Nat} {st : ByteArray} (hg : (gk = (1, i) ∧ gb = cb ∧ go = 12 ∧ st = ⟨#[]⟩) ∨ (gk = (4, ng) ∧ go = 0)) (hk : kd gb = gk) (kf : kd f = (2, i)) (hla : i ≤ la)
    (fr : ∀ b o v, M b o = some v → Acell (kd b) o → ¬ Ta gk go la i (kd b) o → M' b o = some v) (ad : AAdded M' cb f gb go 0 fb i) (n0 : M' gb go = some (.string st)) (n6 : M' gb (go + 6) = some (.bool false)) : AG kd (s.new i cb ng) (upd E i f) (upd ag ng (gb, go)) (upd nm ng st) (i + 1) (ng + 1) M' := by
  have kC := hs.kC
  have keyC : ∀ j o v, j < i → 8 ≤ o → o ≤ 18 → M (s.C j) o = some v → M' (s.C j) o = some v := fun j o v hj h1 h2 hv => fr _ _ _ hv (by rw [kC j hj]; exact Or.inl ⟨rfl, h1, h2⟩) (by
    rw [kC j hj]
    rcases hg with ⟨rfl, _, _, _⟩ | ⟨rfl, _⟩ <;> simp [Ta] <;> omega)
  have keyE : ∀ j o v, j < i → M (E j) o = some v → M' (E j) o = some v := fun j o v hj hv => fr _ _ _ hv (by rw [h.kE j hj]; exact Or.inr (Or.inl rfl)) (by
    rw [h.kE j hj]
    rcases hg with ⟨rfl, _, _, _⟩ | ⟨rfl, _⟩ <;> simp [Ta] <;> omega)
  have keyG : ∀ d o v, d < ng → o ≤ 6 → M (ag d).1 ((ag d).2 + o) = some v → M' (ag d).1 ((ag d).2 + o) = some v := fun d o v hd h6 hv => by
    rcases h.kg d hd with ⟨e, _⟩ | ⟨e, e0⟩
    · rw [e] at hv ⊢
      exact keyC _ _ _ (hs.fi_ d hd).1 (by omega) (by omega) hv
    · refine fr _ _ _ hv (by rw [e, e0]; exact Or.inr (Or.inr ⟨rfl, by omega⟩)) ?_
      rw [e]
      have hne : d ≠ ng := by omega
      rcases hg with ⟨rfl, _, _, _⟩ | ⟨rfl, _⟩ <;> simp [Ta, hne]
  have gidn : ∀ j, j < i → (s.new i cb ng).gid j = s.gid j := fun j hj => upd_ne _ _ (by omega)
  have gidi : (s.new i cb ng).gid i = ng := upd_eq _ _ _
  have Cn : ∀ j, j < i → (s.new i cb ng).C j = s.C j := fun j hj => upd_ne _ _ (by omega)
  have Ci : (s.new i cb ng).C i = cb := upd_eq _ _ _
  have En : ∀ j, j < i → upd E i f j = E j := fun j hj => upd_ne _ _ (by omega)
  have Ei : upd E i f i = f := upd_eq _ _ _
  have Gn : ∀ d, d < ng → upd ag ng (gb, go) d = ag d := fun d hd => upd_ne _ _ (by omega)
  have Gi : upd ag ng (gb, go) ng = (gb, go) := upd_eq _ _ _
  have Nn : ∀ d, d < ng → upd nm ng st d = nm d := fun d hd => upd_ne _ _ (by omega)
  have Ni : upd nm ng st ng = st := upd_eq _ _ _
  have fin : ∀ d, d < ng → (s.new i cb ng).fi d = s.fi d := fun d hd => upd_ne _ _ (by omega)
  have fii : (s.new i cb ng).fi ng = i := upd_eq _ _ _
  have lan : ∀ d, d < ng → (s.new i cb ng).la d = s.la d := fun d hd => upd_ne _ _ (by omega)
  have lai : (s.new i cb ng).la ng = i := upd_eq _ _ _
  refine ⟨fun j hj => ?_, fun d hd => ?_, fun j hj => ?_, fun j hj => ?_, fun j hj => ?_, fun j hj => ?_, fun j hj => ?_, fun d hd => ?_, fun d hd => ?_, fun d hd => ?_, fun d hd => ?_, fun d hd => ?_, fun d hd => ?_⟩
  · by_cases e : j = i
    · subst e; rw [Ei]; exact kf
    · rw [En j (by omega)]; exact h.kE j (by omega)
  · by_cases e : d = ng
    · subst e
      rw [Gi, fii, Ci, Ni]
      rcases hg with ⟨_, rfl, rfl, rfl⟩ | ⟨rfl, rfl⟩
      · exact Or.inl ⟨rfl, rfl⟩
      · exact Or.inr ⟨hk, rfl⟩
    · have hd' : d < ng := by omega
      rw [Gn d hd', fin d hd', Nn d hd', Cn _ (hs.fi_ d hd').1]
      exact h.kg d hd'
  · by_cases e : j = i
    · subst e; rw [Ci]; exact ad.c8
    · rw [Cn j (by omega)]; exact keyC _ _ _ (by omega) (by omega) (by omega) (h.c8 j (by omega))
  · by_cases e : j = i
    · subst e
      rw [Ci, gidi, Gi]
      exact ad.c9
    · rw [Cn j (by omega), gidn j (by omega), Gn _ (hs.gl j (by omega))]; exact keyC _ _ _ (by omega) (by omega) (by omega) (h.c9 j (by omega))
  · by_cases e : j = i
    · subst e; rw [Ci, Ei]; exact ad.c10
    · rw [Cn j (by omega), En j (by omega)]; exact keyC _ _ _ (by omega) (by omega) (by omega) (h.c10 j (by omega))
  · by_cases e : j = i
    · subst e; rw [Ci]; exact ad.c11
    · rw [Cn j (by omega)]; exact keyC _ _ _ (by omega) (by omega) (by omega) (h.c11 j (by omega))
  · by_cases e : j = i
    · subst e; rw [Ci, Ei]; exact ad.f3
    · rw [Cn j (by omega), En j (by omega)]; exact keyE _ _ _ (by omega) (h.e3 j (by omega))
  · by_cases e : d = ng
    · subst e
      rw [Gi, Ni]
      exact n0
    · rw [Gn d (by omega), Nn d (by omega)]
      exact keyG d 0 _ (by omega) (by omega) (h.g0 d (by omega))
  · by_cases e : d = ng
    · subst e
      rw [Gi, fii, Ei]
      exact ad.g1
    · rw [Gn d (by omega), fin d (by omega), En _ (hs.fi_ d (by omega)).1]
      exact keyG d 1 _ (by omega) (by omega) (h.g1 d (by omega))
  · by_cases e : d = ng
    · subst e
      rw [Gi, lai, Ei]
      exact ad.g2
    · rw [Gn d (by omega), lan d (by omega), En _ (hs.la_ d (by omega)).1]
      exact keyG d 2 _ (by omega) (by omega) (h.g2 d (by omega))
  · by_cases e : d = ng
    · subst e
      have : (s.new i cb d).sz d = 1 := upd_eq _ _ _
      rw [this, Gi]
      exact ad.g5
    · have : (s.new i cb ng).sz d = s.sz d := upd_ne _ _ e
      rw [this, Gn d (by omega)]
      exact keyG d 5 _ (by omega) (by omega) (h.g5 d (by omega))
  · by_cases e : d = ng
    · subst e
      have : (s.new i cb d).kp d = false := upd_eq _ _ _
      rw [this, Gi]
      exact n6
    · have : (s.new i cb ng).kp d = s.kp d := upd_ne _ _ e
      rw [this, Gn d (by omega)]
      exact keyG d 6 _ (by omega) (by omega) (h.g6 d (by omega))
  · by_cases e : d = ng
    · subst e
      rw [Gi, lai, Ei]
      exact ad.f0
    · rw [Gn d (by omega), lan d (by omega), En _ (hs.la_ d (by omega)).1]
      exact keyE _ _ _ (hs.la_ d (by omega)).1 (h.e0 d (by omega))

theorem AG.keep {kd : Nat → Nat × Nat} {s : Sh} {E : Nat → Nat} {ag : Nat → Nat × Nat} {nm : Nat → ByteArray} {i ng : Nat} {M M' : Cel} (h : AG kd s E ag nm i ng M) (hs : ShOk kd s i ng) (fr : ∀ b o v, M b o = some v → Acell (kd b) o → M' b o = some v) : AG kd s E ag nm i ng M' := by
  have keyC : ∀ j o v, j < i → 8 ≤ o → o ≤ 18 → M (s.C j) o = some v → M' (s.C j) o = some v := fun j o v hj h1 h2 hv => fr _ _ _ hv (by rw [hs.kC j hj]; exact Or.inl ⟨rfl, h1, h2⟩)
  have keyE : ∀ j o v, j < i → M (E j) o = some v → M' (E j) o = some v := fun j o v hj hv => fr _ _ _ hv (by rw [h.kE j hj]; exact Or.inr (Or.inl rfl))
  have keyG : ∀ d o v, d < ng → o ≤ 6 → M (ag d).1 ((ag d).2 + o) = some v → M' (ag d).1 ((ag d).2 + o) = some v := fun d o v hd h6 hv => by
    rcases h.kg d hd with ⟨e, _⟩ | ⟨e, e0⟩
    · rw [e] at hv ⊢
      exact keyC _ _ _ (hs.fi_ d hd).1 (by omega) (by omega) hv
    · exact fr _ _ _ hv (by rw [e, e0]; exact Or.inr (Or.inr ⟨rfl, by omega⟩))
  exact ⟨h.kE, h.kg, fun j hj => keyC _ _ _ hj (by omega) (by omega) (h.c8 j hj), fun j hj => keyC _ _ _ hj (by omega) (by omega) (h.c9 j hj), fun j hj => keyC _ _ _ hj (by omega) (by omega) (h.c10 j hj), fun j hj => keyC _ _ _ hj (by omega) (by omega) (h.c11 j hj), fun j hj => keyE _ _ _ hj (h.e3 j hj),
    fun d hd => keyG d 0 _ hd (by omega) (h.g0 d hd), fun d hd => keyG d 1 _ hd (by omega) (h.g1 d hd), fun d hd => keyG d 2 _ hd (by omega) (h.g2 d hd), fun d hd => keyG d 5 _ hd (by omega) (h.g5 d hd), fun d hd => keyG d 6 _ hd (by omega) (h.g6 d hd), fun d hd => keyE _ _ _ (hs.la_ d hd).1 (h.e0 d hd)⟩

theorem AG.kdx {kd kd' : Nat → Nat × Nat} {s : Sh} {E : Nat → Nat} {ag : Nat → Nat × Nat} {nm : Nat → ByteArray} {i ng : Nat} {M : Cel} (h : AG kd s E ag nm i ng M) (hk : ∀ b o v, M b o = some v → kd' b = kd b) : AG kd' s E ag nm i ng M :=
  ⟨fun j hj => (hk _ _ _ (h.e3 j hj)).trans (h.kE j hj), fun d hd => by
    rcases h.kg d hd with e | ⟨e, e0⟩
    · exact Or.inl e
    · exact Or.inr ⟨(hk _ _ _ (h.g0 d hd)).trans e, e0⟩, h.c8, h.c9, h.c10, h.c11, h.e3, h.g0, h.g1, h.g2, h.g5, h.g6, h.e0⟩

theorem AG.inj {kd : Nat → Nat × Nat} {s : Sh} {E : Nat → Nat} {ag : Nat → Nat × Nat} {nm : Nat → ByteArray} {i ng : Nat} {M : Cel} (h : AG kd s E ag nm i ng M) (hs : ShOk kd s i ng) {d e : Nat} (hd : d < ng) (he : e < ng) (heq : ag d = ag e) : d = e := by
  have hfd := hs.fi_ d hd
  have hfe := hs.fi_ e he
  rcases h.kg d hd with ⟨h1, _⟩ | ⟨h1, h1'⟩ <;> rcases h.kg e he with ⟨h2, _⟩ | ⟨h2, h2'⟩
  · rw [h1, h2] at heq
    simp at heq
    have k1 := hs.kC _ hfd.1
    rw [heq, hs.kC _ hfe.1] at k1
    simp at k1
    rw [← hfd.2, ← hfe.2, k1]
  · rw [← heq, h1, hs.kC _ hfd.1] at h2
    simp at h2
  · rw [heq, h2, hs.kC _ hfe.1] at h1
    simp at h1
  · rw [heq, h2] at h1
    simp at h1
    exact h1.symm

/-- A group is kept: one cell. -/
theorem AG.kept {kd : Nat → Nat × Nat} {s : Sh} {E : Nat → Nat} {ag : Nat → Nat × Nat} {nm : Nat → ByteArray} {i ng : Nat} {M M' : Cel} (h : AG kd s E ag nm i ng M) (hs : ShOk kd s i ng) {id : Nat} (hid : id < ng) (fr : ∀ b o v, M b o = some v → Acell (kd b) o → ¬ (b = (ag id).1 ∧ o = (ag id).2 + 6) → M' b o = some v)
    (k6 : M' (ag id).1 ((ag id).2 + 6) = some (.bool true)) : AG kd (s.keep id) E ag nm i ng M' := by
  have hfid := hs.fi_ id hid
  have off : ∀ j o, j < i → 8 ≤ o → o ≤ 11 → ¬ (s.C j = (ag id).1 ∧ o = (ag id).2 + 6) := by
    rintro j o hj h1 h2 ⟨a, c⟩
    rcases h.kg id hid with ⟨e, _⟩ | ⟨e, e0⟩
    · rw [e] at c
      simp at c
      omega
    · rw [← a, hs.kC j hj] at e
      simp at e
  have keyC : ∀ j o v, j < i → 8 ≤ o → o ≤ 11 → M (s.C j) o = some v → M' (s.C j) o = some v := fun j o v hj h1 h2 hv => fr _ _ _ hv (by rw [hs.kC j hj]; exact Or.inl ⟨rfl, h1, by omega⟩) (off j o hj h1 h2)
  have keyE : ∀ j o v, j < i → M (E j) o = some v → M' (E j) o = some v := fun j o v hj hv => fr _ _ _ hv (by rw [h.kE j hj]; exact Or.inr (Or.inl rfl)) (by
    rintro ⟨a, c⟩
    have := h.kE j hj
    rw [a] at this
    rcases h.kg id hid with ⟨e, _⟩ | ⟨e, e0⟩
    · rw [e, hs.kC _ hfid.1] at this
      simp at this
    · rw [e] at this
      simp at this)
  have keyG : ∀ d o v, d < ng → o ≤ 6 → (d ≠ id ∨ o ≠ 6) → M (ag d).1 ((ag d).2 + o) = some v → M' (ag d).1 ((ag d).2 + o) = some v := fun d o v hd h6 hne hv => by
    refine fr _ _ _ hv ?_ ?_
    · rcases h.kg d hd with ⟨e, _⟩ | ⟨e, e0⟩
      · rw [e, hs.kC _ (hs.fi_ d hd).1]
        exact Or.inl ⟨rfl, by omega, by omega⟩
      · rw [e, e0]
        exact Or.inr (Or.inr ⟨rfl, by omega⟩)
    · rintro ⟨a, c⟩
      rcases h.kg d hd with ⟨e, _⟩ | ⟨e, e0⟩ <;> rcases h.kg id hid with ⟨e', _⟩ | ⟨e', e0'⟩
      · have : ag d = ag id := by
          rw [e, e'] at a c ⊢
          simp at a c ⊢
          exact a
        have := h.inj hs hd hid this
        rw [e, e'] at c
        simp at c
        omega
      · rw [e] at a
        have k1 := hs.kC _ (hs.fi_ d hd).1
        simp only at a
        rw [a, e'] at k1
        simp at k1
      · rw [a, e', hs.kC _ hfid.1] at e
        simp at e
      · rw [a, e'] at e
        simp at e
        omega
  have kpn : ∀ d, d ≠ id → (s.keep id).kp d = s.kp d := fun d hd => upd_ne _ _ hd
  have kpi : (s.keep id).kp id = true := upd_eq _ _ _
  refine ⟨h.kE, h.kg, fun j hj => keyC _ _ _ hj (by omega) (by omega) (h.c8 j hj), fun j hj => keyC _ _ _ hj (by omega) (by omega) (h.c9 j hj), fun j hj => keyC _ _ _ hj (by omega) (by omega) (h.c10 j hj), fun j hj => keyC _ _ _ hj (by omega) (by omega) (h.c11 j hj), fun j hj => keyE _ _ _ hj (h.e3 j hj),
    fun d hd => keyG d 0 _ hd (by omega) (by omega) (h.g0 d hd), fun d hd => keyG d 1 _ hd (by omega) (by omega) (h.g1 d hd), fun d hd => keyG d 2 _ hd (by omega) (by omega) (h.g2 d hd), fun d hd => keyG d 5 _ hd (by omega) (by omega) (h.g5 d hd), fun d hd => ?_, fun d hd => keyE _ _ _ (hs.la_ d hd).1 (h.e0 d hd)⟩
  by_cases e : d = id
  · subst e
    rw [kpi]
    exact k6
  · rw [kpn d e]
    exact keyG d 6 _ hd (by omega) (Or.inl e) (h.g6 d hd)

/-- The ranks' cells of the age side. -/
def KU (kd : Nat → Nat × Nat) (b o : Nat) : Prop := ((kd b).1 = 1 ∧ o = 19) ∨ ((kd b).1 = 4 ∧ o = 7)
def MemU (s : Sh) (ag : Nat → Nat × Nat) (ng : Nat) : Nat → Nat → Prop := fun gb go => ∃ id, id < ng ∧ s.kp id = false ∧ ag id = (gb, go)
theorem KM_KU {kd : Nat → Nat × Nat} {s : Sh} {E : Nat → Nat} {ag : Nat → Nat × Nat} {nm : Nat → ByteArray} {i ng : Nat} {M : Cel} (h : AG kd s E ag nm i ng M) (hs : ShOk kd s i ng) {id : Nat} (hid : id < ng) : KU kd (ag id).1 ((ag id).2 + 7) := by
  rcases h.kg id hid with ⟨e, _⟩ | ⟨e, e0⟩
  · rw [e]
    exact Or.inl ⟨by rw [hs.kC _ (hs.fi_ id hid).1], rfl⟩
  · exact Or.inr ⟨by rw [e], by rw [e0]⟩
theorem AG.ok {kd : Nat → Nat × Nat} {s : Sh} {E : Nat → Nat} {ag : Nat → Nat × Nat} {nm : Nat → ByteArray} {i ng : Nat} {M : Cel} (h : AG kd s E ag nm i ng M) (hs : ShOk kd s i ng) {hu : Option (Nat × Nat)} (ka : ∀ b, arrB hu b → kd b = (6, 0)) {id : Nat} (hid : id < ng) : AgeOkM (RZ (KU kd) hu) M (ag id).1 (ag id).2 := by
  have nR : ∀ b o, Acell (kd b) o → ¬ RZ (KU kd) hu b o := by
    rintro b o hw (hr' | hr')
    · rcases hw with ⟨a, c, d⟩ | a | ⟨a, c⟩ <;> rcases hr' with ⟨a', c'⟩ | ⟨a', c'⟩ <;> omega
    · rw [ka b hr'] at hw
      rcases hw with ⟨a, c, d⟩ | a | ⟨a, c⟩ <;> simp at a
  have kgc : ∀ o, o ≤ 6 → Acell (kd (ag id).1) ((ag id).2 + o) := by
    intro o ho
    rcases h.kg id hid with ⟨e, _⟩ | ⟨e, e0⟩
    · rw [e, hs.kC _ (hs.fi_ id hid).1]
      exact Or.inl ⟨rfl, by omega, by omega⟩
    · rw [e, e0]
      exact Or.inr (Or.inr ⟨rfl, by omega⟩)
  have hfi := (hs.fi_ id hid).1
  refine ⟨s.sz id, (s.fi id : Nat), E (s.fi id), s.C (s.fi id), 8, by have := (hs.sz1 id hid).1; omega, ⟨h.g1 id hid, nR _ _ (kgc 1 (by omega))⟩, ⟨h.g5 id hid, nR _ _ (kgc 5 (by omega))⟩, ⟨h.e3 _ hfi, nR _ _ ?_⟩, ⟨h.c11 _ hfi, nR _ _ ?_⟩⟩
  · rw [h.kE _ hfi]
    exact Or.inr (Or.inl rfl)
  · rw [hs.kC _ hfi]
    exact Or.inl ⟨rfl, by omega, by omega⟩
end Go.Proofs.Ybulkdcoi
