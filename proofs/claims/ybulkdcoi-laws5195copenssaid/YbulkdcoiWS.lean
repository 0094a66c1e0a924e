/-
  THE WAY SIDE, WHOLE: facts, map, ranking; what (*wayQueue).add does to it.
-/
import Derived.Test.YbulkdcoiAd1
import Derived.Test.YbulkdcoiAd3
namespace Go.Proofs.Ybulkdcoi
open Go.RowKit
set_option linter.unusedVariables false

/-- The ranks' cells of the members. -/
def KM (Mem : Nat → Nat → Prop) (b o : Nat) : Prop := ∃ gb go, Mem gb go ∧ b = gb ∧ o = go + 7

theorem RkZ.chK {W : World} {M : Cel} {K K' : Nat → Nat → Prop} {Mem : Nat → Nat → Prop} {RB ro n : Nat} {hd : Option (Nat × Nat)} {e : TypeId} (h : RkZ W M K Mem RB ro hd n e) (hf : ∀ gb go, Mem gb go → K' gb (go + 7)) (hh : ¬ K' RB ro) : RkZ W M K' Mem RB ro hd n e :=
  ⟨h.hdr, h.rows, h.ent, h.mem, fun gb go hm => ⟨(h.far gb go hm).1, (h.far gb go hm).2.1, hf gb go hm⟩, hh, h.RA⟩
theorem fx.sub {M : Cel} {R R' : Nat → Nat → Prop} {b o : Nat} {v : Value} (h : fx M R b o v) (hs : ∀ b o, R' b o → R b o) : fx M R' b o v := ⟨h.1, fun e => h.2 (hs b o e)⟩
theorem WayOkM.sub {R R' : Nat → Nat → Prop} {M : Cel} {gb go : Nat} (h : WayOkM R M gb go) (hs : ∀ b o, R' b o → R b o) : WayOkM R' M gb go := by
  obtain ⟨s, n, o, eb, cb, co, hn, h1, h2, h3, h4, h5⟩ := h
  exact ⟨s, n, o, eb, cb, co, hn, h1.sub hs, h2.sub hs, h3.sub hs, h4.sub hs, h5.sub hs⟩

structure WS (kd : Nat → Nat × Nat) (s : Sh) (F : Nat → Nat) (wg : Nat → Nat × Nat) (i ng : Nat) (m2 : Option Nat) (nn : Nat) (f2 : List UInt8 → Option Nat) (hr : Option (Nat × Nat)) (nr : Nat) (W : World) (M : Cel) : Prop where
  g : WG kd s F wg i ng M
  p6 : M s.P 6 = some (.map m2)
  mn : m2 = none → nn = 0 ∧ ∀ l, f2 l = none
  ms : ∀ mb, m2 = some mb → Mp W mb nn f2
  p8 : M s.P 8 = some (.int .u64 i)
  rk : RkZ W M (KM (MemR s wg ng)) (MemR s wg ng) s.P 7 hr nr 97
  karr : ∀ b, arrB hr b → kd b = (7, 0)
  r0 : ∀ id, id < ng → want s id = 0 → M (wg id).1 ((wg id).2 + 7) = some (.int .i64 0)

/-- What the way side's steps may touch. -/
def TWc (k : Nat × Nat) (o : Nat) : Prop := (k = (0, 0) ∧ 6 ≤ o) ∨ (k.1 = 1 ∧ 20 ≤ o ∧ o ≤ 31) ∨ k.1 = 3 ∨ k.1 = 5 ∨ k.1 = 7

/-- A new connection's cells on the way side. -/
structure NewW (M : Cel) (cb : Nat) : Prop where
  c20 : M cb 20 = some (.pointer none)
  c21 : M cb 21 = some (.pointer none)
  c22 : M cb 22 = some (.pointer none)
  c23 : M cb 23 = some (.int .u64 0)
  c25 : M cb 25 = some (.int .i64 0)
  c26 : M cb 26 = some (.pointer none)
  c27 : M cb 27 = some (.pointer none)
  c30 : M cb 30 = some (.int .i64 0)
  c31 : M cb 31 = some (.int .i64 0)

def kdW (kd : Nat → Nat × Nat) (S H f i ng : Nat) : Nat → Nat × Nat := fun b => if b < S then kd b else if b = f then (3, i) else if b = H then (5, ng) else (7, 0)
theorem kdW_old (kd : Nat → Nat × Nat) (S H f i ng : Nat) {b : Nat} (h : b < S) : kdW kd S H f i ng b = kd b := by simp [kdW, h]

theorem ShOk.kdx {kd kd' : Nat → Nat × Nat} {s : Sh} {i ng : Nat} (h : ShOk kd s i ng) (hP : kd' s.P = kd s.P) (hC : ∀ j, j < i → kd' (s.C j) = kd (s.C j)) : ShOk kd' s i ng := ⟨hP.trans h.kP, fun j hj => (hC j hj).trans (h.kC j hj), h.gl, h.sz1, h.fi_, h.la_⟩

theorem KM_KR {kd : Nat → Nat × Nat} {s : Sh} {F : Nat → Nat} {wg : Nat → Nat × Nat} {i ng : Nat} {M : Cel} (h : WG kd s F wg i ng M) (hs : ShOk kd s i ng) {id : Nat} (hid : id < ng) : KR kd (wg id).1 ((wg id).2 + 7) := by
  rcases h.kg id hid with e | ⟨e, e0⟩
  · rw [e]
    exact Or.inl ⟨by rw [hs.kC _ (hs.fi_ id hid).1], rfl⟩
  · exact Or.inr ⟨by rw [e], by rw [e0]⟩

/-- The world, memory and kinds behind one step of the way side. -/
def WDone (kd : Nat → Nat × Nat) (s s' : Sh) (wg : Nat → Nat × Nat) (i ng ng' : Nat) (m2 : Option Nat) (nn : Nat) (f2 : List UInt8 → Option Nat) (nr : Nat) (W : World) (M : Cel) (w' : World) (R : (Nat → Nat × Nat) → Option Nat → Nat → (List UInt8 → Option Nat) → Nat → Cel → Prop) : Prop :=
  ∃ kd' M' F' wg' m2' nn' f2' hr' nr', Sx (fun k => m2 = some k) W M w' M' ∧ (∀ b, b < W.heap.size → kd' b = kd b) ∧ WS kd' s' F' wg' (i + 1) ng' m2' nn' f2' hr' nr' w' M' ∧ (∀ b o v, M b o = some v → ¬ TWc (kd b) o → M' b o = some v) ∧ R wg' m2' nn' f2' nr' M'

theorem Tw_sub {gk : Nat × Nat} {go la i : Nat} {k : Nat × Nat} {o : Nat} (hg : (gk = (1, i) ∧ go = 24) ∨ gk.1 = 5) (h : Tw gk go la i k o) : TWc k o := by
  rcases h with ⟨rfl, h1, h2⟩ | ⟨rfl, h⟩ | ⟨rfl, rfl⟩ | ⟨rfl, rfl⟩
  · exact Or.inr (Or.inl ⟨rfl, by omega, by omega⟩)
  · rcases hg with ⟨rfl, rfl⟩ | hg
    · exact Or.inr (Or.inl ⟨rfl, by omega, by omega⟩)
    · exact Or.inr (Or.inr (Or.inr (Or.inl hg)))
  · exact Or.inl ⟨rfl, by omega⟩
  · exact Or.inr (Or.inr (Or.inl rfl))
theorem KR_sub {kd : Nat → Nat × Nat} {b o : Nat} (h : KR kd b o) : TWc (kd b) o := by
  rcases h with ⟨h, rfl⟩ | ⟨h, rfl⟩
  · exact Or.inr (Or.inl ⟨h, by omega, by omega⟩)
  · exact Or.inr (Or.inr (Or.inr (Or.inl h)))

/-- From the tail's word to the way side's, where the group is new. -/
theorem ws_new {kd : Nat → Nat × Nat} {s : Sh} {F : Nat → Nat} {wg : Nat → Nat × Nat} {i ng : Nat} {m2 : Option Nat} {nn : Nat} {f2 : List UInt8 → Option Nat} {hr : Option (Nat × Nat)} {nr : Nat} {W : World} {M : Cel} {w2 w' : World} {cb gb go fb la : Nat} {gk : Nat × Nat}
    (hs : ShOk kd s i ng) (hg : WG kd s F wg i ng M) (karr : ∀ b, arrB hr b → kd b = (7, 0)) (r0 : ∀ id, id < ng → want s id = 0 → M (wg id).1 ((wg id).2 + 7) = some (.int .i64 0)) (p6 : M s.P 6 = some (.map m2)) (hP7 : ∃ v, M s.P 7 = some v)
    (kc : kd cb = (1, i)) (hgk : (gk = (1, i) ∧ gb = cb ∧ go = 24) ∨ (gk = (5, ng) ∧ go = 0)) (hk : kd gb = gk) (kf : kd w2.heap.size = (3, i)) (knew : ∀ b, w2.heap.size < b → kd b = (7, 0)) (hla : i ≤ la) (hA2 : Agr w2 M)
    (h : TailPost kd (KM (Mem1 (MemR s wg ng) gb go)) w2 M (MemR s wg ng) s.P cb gb go fb 0 i 1 la nr gk hr w') (mn : m2 = none → nn = 0 ∧ ∀ l, f2 l = none) (ms : ∀ mb, m2 = some mb → Mp w2 mb nn f2) :
    ∃ M' hr', Stp w2 M w' M' ∧ WS kd (s.new i cb ng) (upd F i w2.heap.size) (upd wg ng (gb, go)) (i + 1) (ng + 1) m2 nn f2 hr' (nr + 1) w' M' ∧ (∀ b o v, M b o = some v → ¬ TWc (kd b) o → M' b o = some v) ∧
      M' w2.heap.size 0 = some (ptr gb (go + 2)) ∧ M' w2.heap.size 1 = some (ptr gb (go + 2)) ∧ M' w2.heap.size 2 = some (ptr gb (go + 2)) ∧ M' w2.heap.size 3 = some (.iface 139 (ptr cb 20)) := by
  obtain ⟨M', hr', nr', st, ad, f1, ff2, p8, rk, hnr, hgr, hbig, fr⟩ := h
  have hmem : ¬ MemR s wg ng gb go := by
    rintro ⟨id, hid, _, he⟩
    rcases hg.kg id hid with e | ⟨e, _⟩
    · have h1 := hs.kC _ (hs.fi_ id hid).1
      have hb : gb = s.C (s.fi id) := by rw [he] at e; simpa using congrArg Prod.fst e
      rw [← hb, hk] at h1
      have := (hs.fi_ id hid).1
      rcases hgk with ⟨rfl, _, _⟩ | ⟨rfl, _⟩ <;> simp at h1
      omega
    · rw [he] at e
      simp at e
      rw [hk] at e
      rcases hgk with ⟨rfl, _, _⟩ | ⟨rfl, _⟩ <;> simp at e
      omega
  obtain rfl : nr' = nr + 1 := by
    rcases hnr with ⟨h, _⟩ | ⟨_, h⟩
    · exact absurd h hmem
    · exact h
  have hKR : ∀ b o, KM (Mem1 (MemR s wg ng) gb go) b o → KR kd b o := by
    rintro b o ⟨xb, xo, hx | ⟨rfl, rfl⟩, rfl, rfl⟩
    · obtain ⟨id, hid, _, he⟩ := hx
      have := KM_KR hg hs hid
      rw [he] at this
      exact this
    · rcases hgk with ⟨rfl, rfl, rfl⟩ | ⟨rfl, rfl⟩
      · exact Or.inl ⟨by rw [hk], rfl⟩
      · exact Or.inr ⟨by rw [hk], rfl⟩
  have gk' : (gk = (1, i) ∧ go = 24) ∨ gk.1 = 5 := by
    rcases hgk with ⟨rfl, _, rfl⟩ | ⟨rfl, _⟩
    · exact Or.inl ⟨rfl, rfl⟩
    · exact Or.inr rfl
  have karr' : ∀ b, arrB hr' b → kd b = (7, 0) := fun b hb => by
    by_cases ho : arrB hr b
    · exact karr b ho
    · exact knew b (hbig b hb ho)
  have frT : ∀ b o v, M b o = some v → Wcell (kd b) o → ¬ Tw gk go la i (kd b) o → M' b o = some v := fun b o v hv hW hT => fr b o v hv hT (fun hK => by
      rcases hKR b o hK with ⟨a, c⟩ | ⟨a, c⟩ <;> rcases hW with ⟨a', c', d'⟩ | a' | ⟨a', c'⟩ <;> omega) (fun ha => by
      rw [karr b ha] at hW
      rcases hW with ⟨a', c', d'⟩ | a' | ⟨a', c'⟩ <;> simp at a') (fun hp => by
      rw [hp.1, hs.kP] at hW
      rcases hW with ⟨a', c', d'⟩ | a' | ⟨a', c'⟩ <;> simp at a')
  have hs' := hs.new (cb := cb) kc
  have g' := hg.new hs (la := la) (fb := fb) hgk hk kf hla frT ad
  have frA : ∀ b o v, M b o = some v → ¬ TWc (kd b) o → M' b o = some v := fun b o v hv hT => fr b o v hv (fun h => hT (Tw_sub gk' h)) (fun h => hT (KR_sub (hKR b o h))) (fun ha => hT (by
    rw [karr b ha]
    exact Or.inr (Or.inr (Or.inr (Or.inr rfl))))) (fun hp => hT (by
    rw [hp.1, hs.kP]
    exact Or.inl ⟨rfl, by omega⟩))
  have wn : ∀ d, d < ng → want (s.new i cb ng) d = want s d := fun d hd => by
    have : d ≠ ng := by omega
    simp [want, Sh.new, upd, this]
  have wo : want (s.new i cb ng) ng = 1 := by simp [want, Sh.new, upd_eq]
  have hiff : ∀ xb xo, Mem1 (MemR s wg ng) gb go xb xo ↔ MemR (s.new i cb ng) (upd wg ng (gb, go)) (ng + 1) xb xo := by
    intro xb xo
    constructor
    · rintro (⟨id, hid, hw, he⟩ | ⟨rfl, rfl⟩)
      · exact ⟨id, by omega, by rw [wn id hid]; exact hw, by rw [upd_ne _ _ (by omega)]; exact he⟩
      · exact ⟨ng, by omega, by rw [wo]; omega, upd_eq _ _ _⟩
    · rintro ⟨id, hid, hw, he⟩
      by_cases e : id = ng
      · subst e
        rw [upd_eq] at he
        cases he
        exact Or.inr ⟨rfl, rfl⟩
      · rw [wn id (by omega)] at hw
        rw [upd_ne _ _ e] at he
        exact Or.inl ⟨id, by omega, hw, he⟩
  have hP7' : ¬ KM (MemR (s.new i cb ng) (upd wg ng (gb, go)) (ng + 1)) s.P 7 := by
    rintro ⟨xb, xo, hx, e1, e2⟩
    have hK : KM (Mem1 (MemR s wg ng) gb go) s.P 7 := ⟨xb, xo, (hiff xb xo).2 hx, e1, e2⟩
    rcases hKR _ _ hK with ⟨h, _⟩ | ⟨h, _⟩ <;> rw [hs.kP] at h <;> simp at h
  have p6' : M' s.P 6 = some (.map m2) := fr s.P 6 _ p6 (by
    rw [hs.kP]
    rintro (⟨e, _⟩ | ⟨e, h⟩ | ⟨_, e⟩ | ⟨e, _⟩)
    · simp at e
    · rcases hgk with ⟨rfl, _, rfl⟩ | ⟨rfl, rfl⟩ <;> simp at e
    · omega
    · simp at e) (fun hK => by
    rcases hKR _ _ hK with ⟨h, _⟩ | ⟨h, _⟩ <;> rw [hs.kP] at h <;> simp at h) (fun ha => by
    have := karr _ ha
    rw [hs.kP] at this
    simp at this) (by omega)
  refine ⟨M', hr', st, ⟨g', p6', mn, fun mb hmb => (ms mb hmb).step hA2 (st.sx (fun _ => False)) (fun h => h), ?_, (rk.keep (fun _ _ _ h => h) hiff fun _ _ _ hv _ => hv).chK (fun gb' go' hm => ⟨gb', go', hm, rfl, rfl⟩) hP7', karr', fun id hid hw => ?_⟩, frA, ad.f0, f1, ff2, ad.f3⟩
  · have : (((i + 1 : Nat)) : Int) = (i : Int) + 1 := by omega
    rw [this]
    exact p8
  · have hne : id ≠ ng := by
      rintro rfl
      omega
    rw [wn id (by omega)] at hw
    rw [upd_ne _ _ hne]
    have hid' : id < ng := by omega
    have hKRi := KM_KR hg hs hid'
    refine fr _ _ _ (r0 id hid' hw) ?_ ?_ ?_ ?_
    · rintro (⟨e, h1, h2⟩ | ⟨e, h⟩ | ⟨e, h⟩ | ⟨e, h⟩)
      · rcases hKRi with ⟨_, h⟩ | ⟨h, _⟩
        · omega
        · rw [e] at h; simp at h
      · rcases hKRi with ⟨h1, h2⟩ | ⟨h1, h2⟩
        · rw [e] at h1
          rcases hgk with ⟨rfl, _, rfl⟩ | ⟨rfl, rfl⟩
          · omega
          · simp at h1
        · rw [e] at h1
          rcases hgk with ⟨rfl, _, rfl⟩ | ⟨rfl, rfl⟩
          · simp at h1
          · omega
      · rcases hKRi with ⟨h1, h2⟩ | ⟨h1, h2⟩ <;> rw [e] at h1 <;> simp at h1
      · rcases hKRi with ⟨h1, h2⟩ | ⟨h1, h2⟩ <;> rw [e] at h1 <;> simp at h1
    · rintro ⟨xb, xo, hx, e1, e2⟩
      have heq : wg id = (xb, xo) := by
        rw [← e1, show xo = (wg id).2 by omega]
      rcases hx with ⟨id', hid2, hw2, he2⟩ | ⟨rfl, rfl⟩
      · have := hg.inj hs hid' hid2 (heq.trans he2.symm)
        subst this
        omega
      · rcases hg.kg id hid' with e | ⟨e, _⟩
        · have h1 := hs.kC _ (hs.fi_ id hid').1
          have hb : xb = s.C (s.fi id) := by rw [heq] at e; simpa using congrArg Prod.fst e
          rw [← hb, hk] at h1
          have := (hs.fi_ id hid').1
          rcases hgk with ⟨rfl, _, _⟩ | ⟨rfl, _⟩ <;> simp at h1
          omega
        · rw [heq] at e
          simp at e
          rw [hk] at e
          rcases hgk with ⟨rfl, _, _⟩ | ⟨rfl, _⟩ <;> simp at e
          omega
    · intro ha
      have h7 := karr _ ha
      rcases hKRi with ⟨h1, h2⟩ | ⟨h1, h2⟩ <;> rw [h7] at h1 <;> simp at h1
    · rintro ⟨h1, _⟩
      rcases hKRi with ⟨h3, h2⟩ | ⟨h3, h2⟩ <;> rw [h1, hs.kP] at h3 <;> simp at h3
/-- From the tail's word to the way side's, where the group was there. -/
theorem ws_old {kd : Nat → Nat × Nat} {s : Sh} {F : Nat → Nat} {wg : Nat → Nat × Nat} {i ng : Nat} {m2 : Option Nat} {nn : Nat} {f2 : List UInt8 → Option Nat} {hr : Option (Nat × Nat)} {nr : Nat} {W : World} {M : Cel} {w2 w' : World} {cb id fb : Nat}
    (hs : ShOk kd s i ng) (hg : WG kd s F wg i ng M) (karr : ∀ b, arrB hr b → kd b = (7, 0)) (r0 : ∀ id, id < ng → want s id = 0 → M (wg id).1 ((wg id).2 + 7) = some (.int .i64 0)) (p6 : M s.P 6 = some (.map m2)) (hP7 : ∃ v, M s.P 7 = some v)
    (kc : kd cb = (1, i)) (hid0 : id < ng) (hn5 : kd (wg id).1 = (5, id)) (hn0 : (wg id).2 = 0) (hfb : 0 < want s id → ∃ x, x < i ∧ fb = F x) (kf : kd w2.heap.size = (3, i)) (knew : ∀ b, w2.heap.size < b → kd b = (7, 0)) (hA2 : Agr w2 M)
    (h : TailPost kd (KM (Mem1 (MemR s wg ng) (wg id).1 0)) w2 M (MemR s wg ng) s.P cb (wg id).1 0 fb (want s id) i (s.sz id + 1) (s.la id) nr (5, id) hr w') (mn : m2 = none → nn = 0 ∧ ∀ l, f2 l = none) (ms : ∀ mb, m2 = some mb → Mp w2 mb nn f2) :
    ∃ M' hr' nr', Stp w2 M w' M' ∧ WS kd (s.old i cb id) (upd F i w2.heap.size) wg (i + 1) ng m2 nn f2 hr' nr' w' M' ∧ (nr' = if 0 < want s id then nr else nr + 1) ∧ (∀ b o v, M b o = some v → ¬ TWc (kd b) o → M' b o = some v) := by
  obtain ⟨M', hr', nr', st, ad, f1, ff2, p8, rk, hnr, hgr, hbig, fr⟩ := h
  have hmem : MemR s wg ng (wg id).1 0 ↔ 0 < want s id := by
    constructor
    · rintro ⟨d, hd, hw, he⟩
      have : d = id := hg.inj hs hd hid0 (by rw [he, ← hn0])
      rw [← this]
      exact hw
    · intro hw
      exact ⟨id, hid0, hw, by rw [← hn0]⟩
  have hnr2 : nr' = if 0 < want s id then nr else nr + 1 := by
    rcases hnr with ⟨h, e⟩ | ⟨h, e⟩
    · rw [if_pos (hmem.1 h)]; exact e
    · rw [if_neg (fun h' => h (hmem.2 h'))]; exact e
  have hKR : ∀ b o, KM (Mem1 (MemR s wg ng) (wg id).1 0) b o → KR kd b o := by
    rintro b o ⟨xb, xo, hx | ⟨rfl, rfl⟩, rfl, rfl⟩
    · obtain ⟨id, hid, _, he⟩ := hx
      have := KM_KR hg hs hid
      rw [he] at this
      exact this
    · exact Or.inr ⟨by rw [hn5], rfl⟩
  have karr' : ∀ b, arrB hr' b → kd b = (7, 0) := fun b hb => by
    by_cases ho : arrB hr b
    · exact karr b ho
    · exact knew b (hbig b hb ho)
  have frT : ∀ b o v, M b o = some v → Wcell (kd b) o → ¬ Tw (5, id) 0 (s.la id) i (kd b) o → M' b o = some v := fun b o v hv hW hT => fr b o v hv hT (fun hK => by
      rcases hKR b o hK with ⟨a, c⟩ | ⟨a, c⟩ <;> rcases hW with ⟨a', c', d'⟩ | a' | ⟨a', c'⟩ <;> omega) (fun ha => by
      rw [karr b ha] at hW
      rcases hW with ⟨a', c', d'⟩ | a' | ⟨a', c'⟩ <;> simp at a') (fun hp => by
      rw [hp.1, hs.kP] at hW
      rcases hW with ⟨a', c', d'⟩ | a' | ⟨a', c'⟩ <;> simp at a')
  have hs' := hs.old (cb := cb) hid0 kc
  have g' := hg.old hs (fb := fb) hid0 hn5 hn0 kf hfb frT ad
  have frA : ∀ b o v, M b o = some v → ¬ TWc (kd b) o → M' b o = some v := fun b o v hv hT => fr b o v hv (fun h => hT (Tw_sub (Or.inr rfl) h)) (fun h => hT (KR_sub (hKR b o h))) (fun ha => hT (by
    rw [karr b ha]
    exact Or.inr (Or.inr (Or.inr (Or.inr rfl))))) (fun hp => hT (by
    rw [hp.1, hs.kP]
    exact Or.inl ⟨rfl, by omega⟩))
  have wo : want (s.old i cb id) id = want s id + 1 := by
    have := (hs.sz1 id hid0).1
    cases hkk : s.kp id <;> simp [want, Sh.old, upd, hkk] <;> omega
  have wn : ∀ d, d ≠ id → want (s.old i cb id) d = want s d := fun d hd => by
    show upd s.sz id (s.sz id + 1) d - _ = _
    rw [upd_ne _ _ hd]
    rfl
  have hiff : ∀ xb xo, Mem1 (MemR s wg ng) (wg id).1 0 xb xo ↔ MemR (s.old i cb id) wg ng xb xo := by
    intro xb xo
    constructor
    · rintro (⟨d, hd, hw, he⟩ | ⟨rfl, rfl⟩)
      · by_cases e : d = id
        · subst e
          exact ⟨d, hd, by rw [wo]; omega, he⟩
        · exact ⟨d, hd, by rw [wn d e]; exact hw, he⟩
      · exact ⟨id, hid0, by rw [wo]; omega, by rw [← hn0]⟩
    · rintro ⟨d, hd, hw, he⟩
      by_cases e : d = id
      · subst e
        refine Or.inr ?_
        rw [he] at hn0 ⊢
        exact ⟨rfl, hn0⟩
      · rw [wn d e] at hw
        exact Or.inl ⟨d, hd, hw, he⟩
  have hP7' : ¬ KM (MemR (s.old i cb id) wg ng) s.P 7 := by
    rintro ⟨xb, xo, hx, e1, e2⟩
    have hK : KM (Mem1 (MemR s wg ng) (wg id).1 0) s.P 7 := ⟨xb, xo, (hiff xb xo).2 hx, e1, e2⟩
    rcases hKR _ _ hK with ⟨h, _⟩ | ⟨h, _⟩ <;> rw [hs.kP] at h <;> simp at h
  have p6' : M' s.P 6 = some (.map m2) := fr s.P 6 _ p6 (by
    rw [hs.kP]
    rintro (⟨e, _⟩ | ⟨e, h⟩ | ⟨_, e⟩ | ⟨e, _⟩)
    · simp at e
    · simp at e
    · omega
    · simp at e) (fun hK => by
    rcases hKR _ _ hK with ⟨h, _⟩ | ⟨h, _⟩ <;> rw [hs.kP] at h <;> simp at h) (fun ha => by
    have := karr _ ha
    rw [hs.kP] at this
    simp at this) (by omega)
  refine ⟨M', hr', nr', st, ⟨g', p6', mn, fun mb hmb => (ms mb hmb).step hA2 (st.sx (fun _ => False)) (fun h => h), ?_, (rk.keep (fun _ _ _ h => h) hiff fun _ _ _ hv _ => hv).chK (fun gb' go' hm => ⟨gb', go', hm, rfl, rfl⟩) hP7', karr', fun d hd hw => ?_⟩, hnr2, frA⟩
  · have : (((i + 1 : Nat)) : Int) = (i : Int) + 1 := by omega
    rw [this]
    exact p8
  · have hne : d ≠ id := by
      rintro rfl
      omega
    rw [wn d hne] at hw
    have hKRi := KM_KR hg hs hd
    refine fr _ _ _ (r0 d hd hw) ?_ ?_ ?_ ?_
    · rintro (⟨e, h1, h2⟩ | ⟨e, h⟩ | ⟨e, h⟩ | ⟨e, h⟩)
      · rcases hKRi with ⟨_, h⟩ | ⟨h, _⟩
        · omega
        · rw [e] at h; simp at h
      · rcases hKRi with ⟨h1, h2⟩ | ⟨h1, h2⟩
        · rw [e] at h1
          simp at h1
        · omega
      · rcases hKRi with ⟨h1, h2⟩ | ⟨h1, h2⟩ <;> rw [e] at h1 <;> simp at h1
      · rcases hKRi with ⟨h1, h2⟩ | ⟨h1, h2⟩ <;> rw [e] at h1 <;> simp at h1
    · rintro ⟨xb, xo, hx, e1, e2⟩
      have heq : wg d = (xb, xo) := by
        rw [← e1, show xo = (wg d).2 by omega]
      rcases hx with ⟨id', hid2, hw2, he2⟩ | ⟨rfl, rfl⟩
      · have := hg.inj hs hd hid2 (heq.trans he2.symm)
        subst this
        omega
      · exact hne (hg.inj hs hd hid0 (by rw [heq, ← hn0]))
    · intro ha
      have h7 := karr _ ha
      rcases hKRi with ⟨h1, h2⟩ | ⟨h1, h2⟩ <;> rw [h7] at h1 <;> simp at h1
    · rintro ⟨h1, _⟩
      rcases hKRi with ⟨h3, h2⟩ | ⟨h3, h2⟩ <;> rw [h1, hs.kP] at h3 <;> simp at h3
end Go.Proofs.Ybulkdcoi
