/-
  THE WAY SIDE OF THE PLACES, IN THE PURE MEMORY: connections' idle places, their groups, the lists of those that could go. No ranks here.
-/
import Derived.Test.YbulkdcoiMp
import Derived.Test.YbulkdcoiL5
namespace Go.Proofs.Ybulkdcoi
open Go.RowKit
set_option linter.unusedVariables false

def upd {α : Type} (f : Nat → α) (k : Nat) (v : α) : Nat → α := fun j => if j = k then v else f j
theorem upd_eq {α : Type} (f : Nat → α) (k : Nat) (v : α) : upd f k v k = v := by simp [upd]
theorem upd_ne {α : Type} (f : Nat → α) {k j : Nat} (v : α) (h : j ≠ k) : upd f k v j = f j := by simp [upd, h]

/-- What both sides know: the places' block, the connections' blocks, their groups' numbers; of each group: how many, kept or not, the first, the last. -/
structure Sh where
  P : Nat
  C : Nat → Nat
  gid : Nat → Nat
  sz : Nat → Nat
  kp : Nat → Bool
  fi : Nat → Nat
  la : Nat → Nat

def Sh.old (s : Sh) (i cb id : Nat) : Sh := { s with C := upd s.C i cb, gid := upd s.gid i id, sz := upd s.sz id (s.sz id + 1), la := upd s.la id i }
def Sh.new (s : Sh) (i cb ng : Nat) : Sh := { s with C := upd s.C i cb, gid := upd s.gid i ng, sz := upd s.sz ng 1, kp := upd s.kp ng false, fi := upd s.fi ng i, la := upd s.la ng i }
def Sh.keep (s : Sh) (id : Nat) : Sh := { s with kp := upd s.kp id true }
def want (s : Sh) (id : Nat) : Nat := s.sz id - (if s.kp id then 1 else 0)

/-- What holds of the shared numbers. -/
structure ShOk (kd : Nat → Nat × Nat) (s : Sh) (i ng : Nat) : Prop where
  kP : kd s.P = (0, 0)
  kC : ∀ j, j < i → kd (s.C j) = (1, j)
  gl : ∀ j, j < i → s.gid j < ng
  sz1 : ∀ id, id < ng → 1 ≤ s.sz id ∧ s.sz id ≤ i
  fi_ : ∀ id, id < ng → s.fi id < i ∧ s.gid (s.fi id) = id
  la_ : ∀ id, id < ng → s.la id < i ∧ s.gid (s.la id) = id

theorem ShOk.old {kd : Nat → Nat × Nat} {s : Sh} {i ng : Nat} (h : ShOk kd s i ng) {cb id : Nat} (hid : id < ng) (hc : kd cb = (1, i)) : ShOk kd (s.old i cb id) (i + 1) ng := by
  refine ⟨h.kP, fun j hj => ?_, fun j hj => ?_, fun d hd => ?_, fun d hd => ?_, fun d hd => ?_⟩
  · by_cases e : j = i
    · subst e
      simp [Sh.old, upd, hc]
    · simp [Sh.old, upd, e, h.kC j (by omega)]
  · by_cases e : j = i
    · subst e
      simp [Sh.old, upd, hid]
    · simp [Sh.old, upd, e, h.gl j (by omega)]
  · have := h.sz1 d hd
    by_cases e : d = id
    · subst e
      simp [Sh.old, upd]
      omega
    · simp [Sh.old, upd, e]
      omega
  · have := h.fi_ d hd
    have hne : s.fi d ≠ i := by omega
    simp [Sh.old, upd, hne]
    omega
  · have := h.la_ d hd
    by_cases e : d = id
    · subst e
      simp [Sh.old, upd]
    · have hne : s.la d ≠ i := by omega
      simp [Sh.old, upd, e, hne]
      omega

theorem ShOk.new {kd : Nat → Nat × Nat} {s : Sh} {i ng : Nat} (h : ShOk kd s i ng) {cb : Nat} (hc : kd cb = (1, i)) : ShOk kd (s.new i cb ng) (i + 1) (ng + 1) := by
  refine ⟨h.kP, fun j hj => ?_, fun j hj => ?_, fun d hd => ?_, fun d hd => ?_, fun d hd => ?_⟩
  · by_cases e : j = i
    · subst e
      simp [Sh.new, upd, hc]
    · simp [Sh.new, upd, e, h.kC j (by omega)]
  · by_cases e : j = i
    · subst e
      simp [Sh.new, upd]
    · have := h.gl j (by omega)
      simp [Sh.new, upd, e]
      omega
  · by_cases e : d = ng
    · subst e
      simp [Sh.new, upd]
    · have := h.sz1 d (by omega)
      simp [Sh.new, upd, e]
      omega
  · by_cases e : d = ng
    · subst e
      simp [Sh.new, upd]
    · have := h.fi_ d (by omega)
      have hne : s.fi d ≠ i := by omega
      simp [Sh.new, upd, e, hne]
      omega
  · by_cases e : d = ng
    · subst e
      simp [Sh.new, upd]
    · have := h.la_ d (by omega)
      have hne : s.la d ≠ i := by omega
      simp [Sh.new, upd, e, hne]
      omega

theorem ShOk.keep {kd : Nat → Nat × Nat} {s : Sh} {i ng : Nat} (h : ShOk kd s i ng) (id : Nat) : ShOk kd (s.keep id) i ng := ⟨h.kP, h.kC, h.gl, h.sz1, h.fi_, h.la_⟩

/-- Connection j spared? -/
def spd (s : Sh) (j : Nat) : Bool := s.kp (s.gid j) && s.fi (s.gid j) == j

structure WG (kd : Nat → Nat × Nat) (s : Sh) (F : Nat → Nat) (wg : Nat → Nat × Nat) (i ng : Nat) (M : Cel) : Prop where
  kF : ∀ j, j < i → kd (F j) = (3, j)
  kg : ∀ id, id < ng → wg id = (s.C (s.fi id), 24) ∨ (kd (wg id).1 = (5, id) ∧ (wg id).2 = 0)
  c20 : ∀ j, j < i → M (s.C j) 20 = some (ptr (s.C j) 0)
  c21 : ∀ j, j < i → M (s.C j) 21 = some (ptr (wg (s.gid j)).1 (wg (s.gid j)).2)
  c22 : ∀ j, j < i → M (s.C j) 22 = some (if spd s j then .pointer none else ptr (F j) 0)
  c23 : ∀ j, j < i → M (s.C j) 23 = some (.int .u64 j)
  f3 : ∀ j, j < i → M (F j) 3 = some (.iface 139 (ptr (s.C j) 20))
  g1 : ∀ id, id < ng → M (wg id).1 ((wg id).2 + 1) = some (.int .i64 (s.sz id))
  g6 : ∀ id, id < ng → M (wg id).1 ((wg id).2 + 2 + 4) = some (.int .i64 (want s id))
  lst : ∀ id, id < ng → 0 < want s id → (∃ x, x < i ∧ M (wg id).1 ((wg id).2 + 2) = some (ptr (F x) 0)) ∧ M (wg id).1 ((wg id).2 + 2 + 1) = some (ptr (F (s.la id)) 0) ∧ M (F (s.la id)) 0 = some (ptr (wg id).1 ((wg id).2 + 2))
  emp : ∀ id, id < ng → want s id = 0 → M (wg id).1 ((wg id).2 + 2) = some (ptr (wg id).1 ((wg id).2 + 2)) ∧ M (wg id).1 ((wg id).2 + 2 + 1) = some (ptr (wg id).1 ((wg id).2 + 2))

/-- The cells that the way side's facts speak of. -/
def Wcell (k : Nat × Nat) (o : Nat) : Prop := (k.1 = 1 ∧ 20 ≤ o ∧ o ≤ 30) ∨ k.1 = 3 ∨ (k.1 = 5 ∧ o ≤ 6)

/-- The cells that 'add' to group id at connection i touches, ranks aside: gk: the kind of the group's block, go: its offset, la: the last element's number. -/
def Tw (gk : Nat × Nat) (go la i : Nat) (k : Nat × Nat) (o : Nat) : Prop :=
  (k = (1, i) ∧ 20 ≤ o ∧ o ≤ 23) ∨ (k = gk ∧ (o = go + 1 ∨ o = go + 2 ∨ o = go + 3 ∨ o = go + 6)) ∨ (k = (0, 0) ∧ o = 8) ∨ (k = (3, la) ∧ o = 0)

/-- What 'add' lays down. -/
structure Added (M' : Cel) (cb f gb go n fb i s1 : Nat) : Prop where
  c20 : M' cb 20 = some (ptr cb 0)
  c21 : M' cb 21 = some (ptr gb go)
  c22 : M' cb 22 = some (ptr f 0)
  c23 : M' cb 23 = some (.int .u64 i)
  f0 : M' f 0 = some (ptr gb (go + 2))
  f3 : M' f 3 = some (.iface 139 (ptr cb 20))
  g1 : M' gb (go + 1) = some (.int .i64 s1)
  g2 : M' gb (go + 2) = some (ptr (if n = 0 then f else fb) 0)
  g3 : M' gb (go + 2 + 1) = some (ptr f 0)
  g6 : M' gb (go + 2 + 4) = some (.int .i64 ((n : Int) + 1))

theorem WG.old {kd : Nat → Nat × Nat} {s : Sh} {F : Nat → Nat} {wg : Nat → Nat × Nat} {i ng : Nat} {M M' : Cel} (h : WG kd s F wg i ng M) (hs : ShOk kd s i ng) {cb f id fb : Nat} (hid : id < ng) (hn : kd (wg id).1 = (5, id)) (hn0 : (wg id).2 = 0) (kf : kd f = (3, i))
    (hfb : 0 < want s id → ∃ x, x < i ∧ fb = F x)
    (fr : ∀ b o v, M b o = some v → Wcell (kd b) o → ¬ Tw (5, id) 0 (s.la id) i (kd b) o → M' b o = some v) (ad : Added M' cb f (wg id).1 0 (want s id) fb i (s.sz id + 1)) : WG kd (s.old i cb id) (upd F i f) wg (i + 1) ng M' := by
  have wo : want (s.old i cb id) id = want s id + 1 := by
    have := (hs.sz1 id hid).1
    cases hkk : s.kp id <;> simp [want, Sh.old, upd, hkk] <;> omega
  have wn : ∀ d, d ≠ id → want (s.old i cb id) d = want s d := fun d hd => by
    show upd s.sz id (s.sz id + 1) d - _ = _
    rw [upd_ne _ _ hd]
    rfl
  have kC := hs.kC
  have keyC : ∀ j o v, j < i → 20 ≤ o → o ≤ 30 → M (s.C j) o = some v → M' (s.C j) o = some v := fun j o v hj h1 h2 hv => fr _ _ _ hv (by rw [kC j hj]; exact Or.inl ⟨rfl, h1, h2⟩) (by
    rw [kC j hj]
    simp [Tw]
    omega)
  have keyF : ∀ j o v, j < i → (j ≠ s.la id ∨ o ≠ 0) → M (F j) o = some v → M' (F j) o = some v := fun j o v hj hne hv => fr _ _ _ hv (by rw [h.kF j hj]; exact Or.inr (Or.inl rfl)) (by
    rw [h.kF j hj]
    simp [Tw]
    omega)
  have keyG : ∀ d o v, d < ng → d ≠ id → o ≤ 6 → M (wg d).1 ((wg d).2 + o) = some v → M' (wg d).1 ((wg d).2 + o) = some v := fun d o v hd hne h6 hv => by
    rcases h.kg d hd with e | ⟨e, e0⟩
    · rw [e] at hv ⊢
      exact keyC _ _ _ (hs.fi_ d hd).1 (by omega) (by omega) hv
    · refine fr _ _ _ hv (by rw [e, e0]; exact Or.inr (Or.inr ⟨rfl, by omega⟩)) ?_
      rw [e]
      simp [Tw, hne]
  have gidn : ∀ j, j < i → (s.old i cb id).gid j = s.gid j := fun j hj => upd_ne _ _ (by omega)
  have gidi : (s.old i cb id).gid i = id := upd_eq _ _ _
  have Cn : ∀ j, j < i → (s.old i cb id).C j = s.C j := fun j hj => upd_ne _ _ (by omega)
  have Ci : (s.old i cb id).C i = cb := upd_eq _ _ _
  have Fn : ∀ j, j < i → upd F i f j = F j := fun j hj => upd_ne _ _ (by omega)
  have Fi : upd F i f i = f := upd_eq _ _ _
  refine ⟨fun j hj => ?_, fun d hd => ?_, fun j hj => ?_, fun j hj => ?_, fun j hj => ?_, fun j hj => ?_, fun j hj => ?_, fun d hd => ?_, fun d hd => ?_, fun d hd hw => ?_, fun d hd hw => ?_⟩
  · by_cases e : j = i
    · subst e; rw [Fi]; exact kf
    · rw [Fn j (by omega)]; exact h.kF j (by omega)
  · rcases h.kg d hd with e | e
    · left
      rw [e]
      have := (hs.fi_ d hd).1
      show _ = ((s.old i cb id).C (s.fi d), 24)
      rw [Cn _ this]
    · exact Or.inr e
  · by_cases e : j = i
    · subst e; rw [Ci]; exact ad.c20
    · rw [Cn j (by omega)]; exact keyC _ _ _ (by omega) (by omega) (by omega) (h.c20 j (by omega))
  · by_cases e : j = i
    · subst e
      rw [Ci, gidi, ad.c21, hn0]
    · rw [Cn j (by omega), gidn j (by omega)]; exact keyC _ _ _ (by omega) (by omega) (by omega) (h.c21 j (by omega))
  · by_cases e : j = i
    · subst e
      have : spd (s.old j cb id) j = false := by
        have := (hs.fi_ id hid).1
        unfold spd
        rw [gidi]
        have : s.fi id ≠ j := by omega
        simp [Sh.old, this]
      rw [Ci, this, Fi]
      exact ad.c22
    · have hsp : spd (s.old i cb id) j = spd s j := by
        unfold spd
        rw [gidn j (by omega)]
        rfl
      rw [Cn j (by omega), hsp, Fn j (by omega)]
      exact keyC _ _ _ (by omega) (by omega) (by omega) (h.c22 j (by omega))
  · by_cases e : j = i
    · subst e; rw [Ci]; exact ad.c23
    · rw [Cn j (by omega)]; exact keyC _ _ _ (by omega) (by omega) (by omega) (h.c23 j (by omega))
  · by_cases e : j = i
    · subst e; rw [Ci, Fi]; exact ad.f3
    · rw [Cn j (by omega), Fn j (by omega)]; exact keyF _ _ _ (by omega) (Or.inr (by decide)) (h.f3 j (by omega))
  · by_cases e : d = id
    · subst e
      have : (s.old i cb d).sz d = s.sz d + 1 := upd_eq _ _ _
      rw [this, hn0]
      exact ad.g1
    · have : (s.old i cb id).sz d = s.sz d := upd_ne _ _ e
      rw [this]
      exact keyG d 1 _ hd e (by omega) (h.g1 d hd)
  · by_cases e : d = id
    · subst e
      rw [wo, hn0]
      exact ad.g6
    · rw [wn d e]
      exact keyG d 6 _ hd e (by omega) (h.g6 d hd)
  · by_cases e : d = id
    · subst e
      have la : (s.old i cb d).la d = i := upd_eq _ _ _
      rw [la, Fi, hn0]
      refine ⟨?_, ad.g3, ad.f0⟩
      by_cases hz : want s d = 0
      · refine ⟨i, by omega, ?_⟩
        rw [Fi]
        have := ad.g2
        rw [if_pos hz] at this
        exact this
      · obtain ⟨x, hx, rfl⟩ := hfb (by omega)
        refine ⟨x, by omega, ?_⟩
        rw [Fn x hx]
        have := ad.g2
        rw [if_neg hz] at this
        exact this
    · rw [wn d e] at hw
      obtain ⟨⟨x, hx, hx2⟩, h3, h0⟩ := h.lst d hd hw
      have la : (s.old i cb id).la d = s.la d := upd_ne _ _ e
      have hla := hs.la_ d hd
      have hla2 := hs.la_ id hid
      rw [la, Fn _ hla.1]
      refine ⟨⟨x, by omega, ?_⟩, keyG d 3 _ hd e (by omega) h3, keyF _ _ _ hla.1 (Or.inl ?_) h0⟩
      · rw [Fn x hx]
        exact keyG d 2 _ hd e (by omega) hx2
      · intro h'
        rw [h'] at hla
        omega
  · by_cases e : d = id
    · subst e
      omega
    · rw [wn d e] at hw
      obtain ⟨h1, h2⟩ := h.emp d hd hw
      exact ⟨keyG d 2 _ hd e (by omega) h1, keyG d 3 _ hd e (by omega) h2⟩

theorem WG.new {kd : Nat → Nat × Nat} {s : Sh} {F : Nat → Nat} {wg : Nat → Nat × Nat} {i ng : Nat} {M M' : Cel} (h : WG kd s F wg i ng M) (hs : ShOk kd s i ng) {cb f gb go fb la : Nat} {gk : Nat × Nat} (hg : (gk = (1, i) ∧ gb = cb ∧ go = 24) ∨ (gk = (5, ng) ∧ go = 0)) (hk : kd gb = gk) (kf : kd f = (3, i)) (hla : i ≤ la)
    (fr : ∀ b o v, M b o = some v → Wcell (kd b) o → ¬ Tw gk go la i (kd b) o → M' b o = some v) (ad : Added M' cb f gb go 0 fb i 1) : WG kd (s.new i cb ng) (upd F i f) (upd wg ng (gb, go)) (i + 1) (ng + 1) M' := by
  have wo : want (s.new i cb ng) ng = 1 := by simp [want, Sh.new, upd_eq]
  have wn : ∀ d, d < ng → want (s.new i cb ng) d = want s d := fun d hd => by
    have : d ≠ ng := by omega
    simp [want, Sh.new, upd, this]
  have kC := hs.kC
  have keyC : ∀ j o v, j < i → 20 ≤ o → o ≤ 30 → M (s.C j) o = some v → M' (s.C j) o = some v := fun j o v hj h1 h2 hv => fr _ _ _ hv (by rw [kC j hj]; exact Or.inl ⟨rfl, h1, h2⟩) (by
    rw [kC j hj]
    rcases hg with ⟨rfl, _, _⟩ | ⟨rfl, _⟩ <;> simp [Tw] <;> omega)
  have keyF : ∀ j o v, j < i → M (F j) o = some v → M' (F j) o = some v := fun j o v hj hv => fr _ _ _ hv (by rw [h.kF j hj]; exact Or.inr (Or.inl rfl)) (by
    rw [h.kF j hj]
    rcases hg with ⟨rfl, _, _⟩ | ⟨rfl, _⟩ <;> simp [Tw] <;> omega)
  have keyG : ∀ d o v, d < ng → o ≤ 6 → M (wg d).1 ((wg d).2 + o) = some v → M' (wg d).1 ((wg d).2 + o) = some v := fun d o v hd h6 hv => by
    rcases h.kg d hd with e | ⟨e, e0⟩
    · rw [e] at hv ⊢
      exact keyC _ _ _ (hs.fi_ d hd).1 (by omega) (by omega) hv
    · refine fr _ _ _ hv (by rw [e, e0]; exact Or.inr (Or.inr ⟨rfl, by omega⟩)) ?_
      rw [e]
      have hne : d ≠ ng := by omega
      rcases hg with ⟨rfl, _, _⟩ | ⟨rfl, _⟩ <;> simp [Tw, hne]
  have gidn : ∀ j, j < i → (s.new i cb ng).gid j = s.gid j := fun j hj => upd_ne _ _ (by omega)
  have gidi : (s.new i cb ng).gid i = ng := upd_eq _ _ _
  have Cn : ∀ j, j < i → (s.new i cb ng).C j = s.C j := fun j hj => upd_ne _ _ (by omega)
  have Ci : (s.new i cb ng).C i = cb := upd_eq _ _ _
  have Fn : ∀ j, j < i → upd F i f j = F j := fun j hj => upd_ne _ _ (by omega)
  have Fi : upd F i f i = f := upd_eq _ _ _
  have Gn : ∀ d, d < ng → upd wg ng (gb, go) d = wg d := fun d hd => upd_ne _ _ (by omega)
  have Gi : upd wg ng (gb, go) ng = (gb, go) := upd_eq _ _ _
  refine ⟨fun j hj => ?_, fun d hd => ?_, fun j hj => ?_, fun j hj => ?_, fun j hj => ?_, fun j hj => ?_, fun j hj => ?_, fun d hd => ?_, fun d hd => ?_, fun d hd hw => ?_, fun d hd hw => ?_⟩
  · by_cases e : j = i
    · subst e; rw [Fi]; exact kf
    · rw [Fn j (by omega)]; exact h.kF j (by omega)
  · by_cases e : d = ng
    · subst e
      rw [Gi]
      have hfi : (s.new i cb d).fi d = i := upd_eq _ _ _
      rw [hfi, Ci]
      rcases hg with ⟨_, rfl, rfl⟩ | ⟨rfl, rfl⟩
      · exact Or.inl rfl
      · exact Or.inr ⟨hk, rfl⟩
    · rw [Gn d (by omega)]
      have hfi : (s.new i cb ng).fi d = s.fi d := upd_ne _ _ e
      rcases h.kg d (by omega) with e' | e'
      · left
        rw [e', hfi, Cn _ (hs.fi_ d (by omega)).1]
      · exact Or.inr e'
  · by_cases e : j = i
    · subst e; rw [Ci]; exact ad.c20
    · rw [Cn j (by omega)]; exact keyC _ _ _ (by omega) (by omega) (by omega) (h.c20 j (by omega))
  · by_cases e : j = i
    · subst e
      rw [Ci, gidi, Gi]
      exact ad.c21
    · rw [Cn j (by omega), gidn j (by omega), Gn _ (hs.gl j (by omega))]; exact keyC _ _ _ (by omega) (by omega) (by omega) (h.c21 j (by omega))
  · by_cases e : j = i
    · subst e
      have : spd (s.new j cb ng) j = false := by
        unfold spd
        rw [gidi]
        simp [Sh.new, upd]
      rw [Ci, this, Fi]
      exact ad.c22
    · have hgl := hs.gl j (by omega)
      have hsp : spd (s.new i cb ng) j = spd s j := by
        unfold spd
        rw [gidn j (by omega)]
        have : s.gid j ≠ ng := by omega
        simp [Sh.new, upd, this]
      rw [Cn j (by omega), hsp, Fn j (by omega)]
      exact keyC _ _ _ (by omega) (by omega) (by omega) (h.c22 j (by omega))
  · by_cases e : j = i
    · subst e; rw [Ci]; exact ad.c23
    · rw [Cn j (by omega)]; exact keyC _ _ _ (by omega) (by omega) (by omega) (h.c23 j (by omega))
  · by_cases e : j = i
    · subst e; rw [Ci, Fi]; exact ad.f3
    · rw [Cn j (by omega), Fn j (by omega)]; exact keyF _ _ _ (by omega) (h.f3 j (by omega))
  · by_cases e : d = ng
    · subst e
      have : (s.new i cb d).sz d = 1 := upd_eq _ _ _
      rw [this, Gi]
      exact ad.g1
    · have : (s.new i cb ng).sz d = s.sz d := upd_ne _ _ e
      rw [this, Gn d (by omega)]
      exact keyG d 1 _ (by omega) (by omega) (h.g1 d (by omega))
  · by_cases e : d = ng
    · subst e
      rw [wo, Gi]
      exact ad.g6
    · rw [wn d (by omega), Gn d (by omega)]
      exact keyG d 6 _ (by omega) (by omega) (h.g6 d (by omega))
  · by_cases e : d = ng
    · subst e
      have la : (s.new i cb d).la d = i := upd_eq _ _ _
      rw [la, Fi, Gi]
      exact ⟨⟨i, by omega, by rw [Fi]; exact ad.g2⟩, ad.g3, ad.f0⟩
    · rw [wn d (by omega)] at hw
      obtain ⟨⟨x, hx, hx2⟩, h3, h0⟩ := h.lst d (by omega) hw
      have la : (s.new i cb ng).la d = s.la d := upd_ne _ _ e
      have hla := hs.la_ d (by omega)
      rw [la, Fn _ hla.1, Gn d (by omega)]
      exact ⟨⟨x, by omega, by rw [Fn x hx]; exact keyG d 2 _ (by omega) (by omega) hx2⟩, keyG d 3 _ (by omega) (by omega) h3, keyF _ _ _ hla.1 h0⟩
  · by_cases e : d = ng
    · subst e
      omega
    · rw [wn d (by omega)] at hw
      obtain ⟨h1, h2⟩ := h.emp d (by omega) hw
      rw [Gn d (by omega)]
      exact ⟨keyG d 2 _ (by omega) (by omega) h1, keyG d 3 _ (by omega) (by omega) h2⟩


theorem WG.keep {kd : Nat → Nat × Nat} {s : Sh} {F : Nat → Nat} {wg : Nat → Nat × Nat} {i ng : Nat} {M M' : Cel} (h : WG kd s F wg i ng M) (hs : ShOk kd s i ng) (fr : ∀ b o v, M b o = some v → Wcell (kd b) o → M' b o = some v) : WG kd s F wg i ng M' := by
  have keyC : ∀ j o v, j < i → 20 ≤ o → o ≤ 30 → M (s.C j) o = some v → M' (s.C j) o = some v := fun j o v hj h1 h2 hv => fr _ _ _ hv (by
    rw [hs.kC j hj]
    exact Or.inl ⟨rfl, h1, h2⟩)
  have keyF : ∀ j o v, j < i → M (F j) o = some v → M' (F j) o = some v := fun j o v hj hv => fr _ _ _ hv (by
    rw [h.kF j hj]
    exact Or.inr (Or.inl rfl))
  have keyG : ∀ d o v, d < ng → o ≤ 6 → M (wg d).1 ((wg d).2 + o) = some v → M' (wg d).1 ((wg d).2 + o) = some v := fun d o v hd ho hv => by
    rcases h.kg d hd with e | ⟨e, e0⟩
    · rw [e] at hv ⊢
      exact keyC _ _ _ (hs.fi_ d hd).1 (by omega) (by omega) hv
    · refine fr _ _ _ hv ?_
      rw [e, e0]
      exact Or.inr (Or.inr ⟨rfl, by omega⟩)
  exact ⟨h.kF, h.kg, fun j hj => keyC _ _ _ hj (by omega) (by omega) (h.c20 j hj), fun j hj => keyC _ _ _ hj (by omega) (by omega) (h.c21 j hj), fun j hj => keyC _ _ _ hj (by omega) (by omega) (h.c22 j hj), fun j hj => keyC _ _ _ hj (by omega) (by omega) (h.c23 j hj), fun j hj => keyF _ _ _ hj (h.f3 j hj),
    fun d hd => keyG d 1 _ hd (by omega) (h.g1 d hd), fun d hd => keyG d 6 _ hd (by omega) (h.g6 d hd), fun d hd hw => by
      obtain ⟨⟨x, hx, hx2⟩, h3, h0⟩ := h.lst d hd hw
      exact ⟨⟨x, hx, keyG d 2 _ hd (by omega) hx2⟩, keyG d 3 _ hd (by omega) h3, keyF _ _ _ (hs.la_ d hd).1 h0⟩, fun d hd hw => by
      obtain ⟨h1, h2⟩ := h.emp d hd hw
      exact ⟨keyG d 2 _ hd (by omega) h1, keyG d 3 _ hd (by omega) h2⟩⟩

theorem WG.kdx {kd kd' : Nat → Nat × Nat} {s : Sh} {F : Nat → Nat} {wg : Nat → Nat × Nat} {i ng : Nat} {M : Cel} (h : WG kd s F wg i ng M) (hk : ∀ b o v, M b o = some v → kd' b = kd b) : WG kd' s F wg i ng M :=
  ⟨fun j hj => (hk _ _ _ (h.f3 j hj)).trans (h.kF j hj), fun d hd => by
    rcases h.kg d hd with e | ⟨e, e0⟩
    · exact Or.inl e
    · exact Or.inr ⟨(hk _ _ _ (h.g1 d hd)).trans e, e0⟩, h.c20, h.c21, h.c22, h.c23, h.f3, h.g1, h.g6, h.lst, h.emp⟩

/-- Two groups lie at two places. -/
theorem WG.inj {kd : Nat → Nat × Nat} {s : Sh} {F : Nat → Nat} {wg : Nat → Nat × Nat} {i ng : Nat} {M : Cel} (h : WG kd s F wg i ng M) (hs : ShOk kd s i ng) {d e : Nat} (hd : d < ng) (he : e < ng) (heq : wg d = wg e) : d = e := by
  have hfd := hs.fi_ d hd
  have hfe := hs.fi_ e he
  rcases h.kg d hd with h1 | ⟨h1, h1'⟩ <;> rcases h.kg e he with h2 | ⟨h2, h2'⟩
  · rw [h1, h2] at heq
    simp at heq
    have k1 := hs.kC _ hfd.1
    rw [heq, hs.kC _ hfe.1] at k1
    simp at k1
    rw [← hfd.2, ← hfe.2, k1]
  · rw [← heq, h1, hs.kC _ hfd.1] at h2
    simp at h2
  · rw [heq, h2, hs.kC _ hfe.1] at h1
    simp at h1
  · rw [heq, h2] at h1
    simp at h1
    exact h1.symm

/-- The ranks' cells of the way side. -/
def KR (kd : Nat → Nat × Nat) (b o : Nat) : Prop := ((kd b).1 = 1 ∧ o = 31) ∨ ((kd b).1 = 5 ∧ o = 7)
def MemR (s : Sh) (wg : Nat → Nat × Nat) (ng : Nat) : Nat → Nat → Prop := fun gb go => ∃ id, id < ng ∧ 0 < want s id ∧ wg id = (gb, go)

theorem WG.ok {kd : Nat → Nat × Nat} {s : Sh} {F : Nat → Nat} {wg : Nat → Nat × Nat} {i ng : Nat} {M : Cel} (h : WG kd s F wg i ng M) (hs : ShOk kd s i ng) {hr : Option (Nat × Nat)} (ka : ∀ b, arrB hr b → kd b = (7, 0)) {gb go : Nat} (hm : MemR s wg ng gb go) : WayOkM (RZ (KR kd) hr) M gb go := by
  obtain ⟨id, hid, hw, he⟩ := hm
  obtain ⟨⟨x, hx, h2⟩, h3, h0⟩ := h.lst id hid hw
  have hg1 := h.g1 id hid
  have hg6 := h.g6 id hid
  have kg := h.kg id hid
  rw [he] at h2 hg1 hg6 kg
  have nR : ∀ b o, Wcell (kd b) o → ¬ RZ (KR kd) hr b o := by
    rintro b o hw (hr' | hr')
    · rcases hw with ⟨a, c, d⟩ | a | ⟨a, c⟩ <;> rcases hr' with ⟨a', c'⟩ | ⟨a', c'⟩ <;> omega
    · rw [ka b hr'] at hw
      rcases hw with ⟨a, c, d⟩ | a | ⟨a, c⟩ <;> simp at a
  have kgc : ∀ o, o ≤ 6 → Wcell (kd gb) (go + o) := by
    intro o ho
    rcases kg with e | ⟨e, e0⟩
    · simp at e
      rw [e.1, e.2, hs.kC _ (hs.fi_ id hid).1]
      exact Or.inl ⟨rfl, by omega, by omega⟩
    · simp at e e0
      rw [e, e0]
      exact Or.inr (Or.inr ⟨rfl, by omega⟩)
  refine ⟨s.sz id, want s id, x, F x, s.C x, 20, by omega, ⟨hg1, nR _ _ (kgc 1 (by omega))⟩, ⟨h2, nR _ _ (kgc 2 (by omega))⟩, ⟨hg6, nR _ _ (kgc 6 (by omega))⟩, ⟨h.f3 x hx, nR _ _ ?_⟩, ⟨h.c23 x hx, nR _ _ ?_⟩⟩
  · rw [h.kF x hx]
    exact Or.inr (Or.inl rfl)
  · rw [hs.kC x hx]
    exact Or.inl ⟨rfl, by omega, by omega⟩

theorem RkZ.keep {W w' : World} {M M' : Cel} {K : Nat → Nat → Prop} {Mem Mem' : Nat → Nat → Prop} {RB ro n : Nat} {hd : Option (Nat × Nat)} {e : TypeId} (h : RkZ W M K Mem RB ro hd n e) (sh : ∀ k n t, Shp W k n t → Shp w' k n t) (hm : ∀ gb go, Mem gb go ↔ Mem' gb go)
    (fr : ∀ b o v, M b o = some v → (K b o ∨ arrB hd b ∨ (b = RB ∧ o = ro)) → M' b o = some v) : RkZ w' M' K Mem' RB ro hd n e := by
  refine ⟨fr _ _ _ h.hdr (Or.inr (Or.inr ⟨rfl, rfl⟩)), ?_, fun A k hA hk => ?_, fun gb go hg => ?_, fun gb go hg => h.far gb go ((hm gb go).2 hg), h.hdrK, h.RA⟩
  · have hr := h.rows
    rcases hd with _ | ⟨A, cap⟩
    · exact hr
    · refine ⟨hr.1, hr.2.1, sh _ _ _ hr.2.2.1, fun k hk => ?_⟩
      obtain ⟨v, hv⟩ := hr.2.2.2 k hk
      exact ⟨v, fr _ _ _ hv (Or.inr (Or.inl ⟨cap, rfl⟩))⟩
  · obtain ⟨gb, go, hg, he, hr⟩ := h.ent A k hA hk
    exact ⟨gb, go, (hm gb go).1 hg, fr _ _ _ he (Or.inr (Or.inl hA)), fr _ _ _ hr (Or.inl (h.far gb go hg).2.2)⟩
  · obtain ⟨A, k, hA, hk, he⟩ := h.mem gb go ((hm gb go).2 hg)
    exact ⟨A, k, hA, hk, fr _ _ _ he (Or.inr (Or.inl hA))⟩
theorem RkZ.arr_lt {W : World} {M : Cel} {K : Nat → Nat → Prop} {Mem : Nat → Nat → Prop} {RB ro n : Nat} {hd : Option (Nat × Nat)} {e : TypeId} (h : RkZ W M K Mem RB ro hd n e) (hA : Agr W M) {b : Nat} (hb : arrB hd b) : b < W.heap.size := by
  obtain ⟨cap, rfl⟩ := hb
  obtain ⟨v, hv⟩ := h.rows.2.2.2 0 h.rows.2.1
  exact hA.lt hv
end Go.Proofs.Ybulkdcoi
