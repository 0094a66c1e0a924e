/-
  (*inboundPlaces).open ON THE WHOLE STATE.
-/
import Derived.Test.YbulkdcoiNT
namespace Go.Proofs.Ybulkdcoi
open Go.RowKit
set_option linter.unusedVariables false

/-- What is not in the memory itself: kinds of blocks, the connections, groups and elements by number, the maps as functions, the rankings' rows. -/
structure Gst where
  kd : Nat → Nat × Nat
  s : Sh
  F : Nat → Nat
  wg : Nat → Nat × Nat
  E : Nat → Nat
  ag : Nat → Nat × Nat
  nm : Nat → ByteArray
  ng : Nat
  m1 : Nat
  m2 : Option Nat
  nn : Nat
  f1 : List UInt8 → Option Nat
  f2 : List UInt8 → Option Nat
  hu : Option (Nat × Nat)
  nu : Nat
  hr : Option (Nat × Nat)
  nr : Nat
  kc : Nat

structure Fas (g : Gst) (i K : Nat) (W : World) (M : Cel) : Prop where
  agr : Agr W M
  sh : ShOk g.kd g.s i g.ng
  ws : WS g.kd g.s g.F g.wg i g.ng g.m2 g.nn g.f2 g.hr g.nr W M
  ah : AS g.kd g.s g.E g.ag g.nm i g.ng g.m1 g.nn g.f1 g.hu g.nu g.kc K W M
  p0 : M g.s.P 0 = some (.int .i64 i)
  mm : g.m2 ≠ some g.m1
  n1 : ∀ id, id < g.ng → g.nm id ≠ ⟨#[]⟩ → g.f1 (g.nm id).data.toList = some (g.ag id).1 ∧ g.kd (g.ag id).1 = (4, id) ∧ (g.ag id).2 = 0
  n2 : ∀ id, id < g.ng → g.nm id ≠ ⟨#[]⟩ → g.f2 (g.nm id).data.toList = some (g.wg id).1 ∧ g.kd (g.wg id).1 = (5, id) ∧ (g.wg id).2 = 0
  n3 : ∀ l, (∀ id, id < g.ng → g.nm id ≠ ⟨#[]⟩ → (g.nm id).data.toList ≠ l) → g.f1 l = none ∧ g.f2 l = none
  n4 : ∀ id, id < g.ng → g.nm id = ⟨#[]⟩ → g.ag id = (g.s.C (g.s.fi id), 12)

def kdA (kd : Nat → Nat × Nat) (S H f i ng : Nat) : Nat → Nat × Nat := fun b => if b < S then kd b else if b = f then (2, i) else if b = H then (4, ng) else (6, 0)
theorem kdA_old (kd : Nat → Nat × Nat) (S H f i ng : Nat) {b : Nat} (h : b < S) : kdA kd S H f i ng b = kd b := by simp [kdA, h]

/-- What 'open' leaves in every case. -/
structure Opened (g g' : Gst) (i K : Nat) (W : World) (M : Cel) (w' : World) (M' : Cel) : Prop where
  sx : Sx (fun k => k = g.m1 ∨ g.m2 = some k) W M w' M'
  fs : Fas g' (i + 1) K w' M'
  kd : ∀ b, b < W.heap.size → g'.kd b = g.kd b
  fr : ∀ b o v, M b o = some v → (g.kd b).1 = 8 → M' b o = some v
  m1 : g'.m1 = g.m1
  m2 : ∀ mb, g'.m2 = some mb → g.m2 = some mb ∨ W.heap.size ≤ mb

/-- The first of a new group. -/
def ONew (g : Gst) (i K : Nat) (W : World) (M : Cel) (cb : Nat) (st : ByteArray) (w' : World) : Prop :=
  ∃ g' M', Opened g g' i K W M w' M' ∧ g'.ng = g.ng + 1 ∧ g'.nm = upd g.nm g.ng st ∧ g'.nn = (if st = ⟨#[]⟩ then g.nn else g.nn + 1) ∧
    ((g.kc < K ∧ g'.s = (g.s.new i cb g.ng).keep g.ng ∧ g'.kc = g.kc + 1 ∧ g'.nu = g.nu ∧ g'.nr = g.nr) ∨ (K ≤ g.kc ∧ g'.s = g.s.new i cb g.ng ∧ g'.kc = g.kc ∧ g'.nu = g.nu + 1 ∧ g'.nr = g.nr + 1))
/-- One more of a group that was there. -/
def OOld (g : Gst) (i K : Nat) (W : World) (M : Cel) (cb id : Nat) (w' : World) : Prop :=
  ∃ g' M', Opened g g' i K W M w' M' ∧ g'.ng = g.ng ∧ g'.nm = g.nm ∧ g'.nn = g.nn ∧ g'.s = g.s.old i cb id ∧ g'.kc = g.kc ∧ g'.nu = g.nu ∧ g'.nr = (if 0 < want g.s id then g.nr else g.nr + 1)

/-- The count is one more. -/
theorem Fas.count {g : Gst} {i K : Nat} {W : World} {M : Cel} (h : Fas g i K W M) : Stp W M (W.setCell ⟨g.s.P, 0, none⟩ (.int .i64 ((i : Int) + 1))).drew (up M g.s.P 0 (.int .i64 ((i : Int) + 1))) ∧
    WS g.kd g.s g.F g.wg i g.ng g.m2 g.nn g.f2 g.hr g.nr (W.setCell ⟨g.s.P, 0, none⟩ (.int .i64 ((i : Int) + 1))).drew (up M g.s.P 0 (.int .i64 ((i : Int) + 1))) ∧
    AS g.kd g.s g.E g.ag g.nm i g.ng g.m1 g.nn g.f1 g.hu g.nu g.kc K (W.setCell ⟨g.s.P, 0, none⟩ (.int .i64 ((i : Int) + 1))).drew (up M g.s.P 0 (.int .i64 ((i : Int) + 1))) ∧
    (∀ b o v, M b o = some v → g.kd b ≠ (0, 0) → up M g.s.P 0 (.int .i64 ((i : Int) + 1)) b o = some v) := by
  have st := ((Stp.refl h.agr).set h.p0 (.int .i64 ((i : Int) + 1))).drew
  have fr : ∀ b o v, M b o = some v → ¬ (b = g.s.P ∧ o = 0) → up M g.s.P 0 (.int .i64 ((i : Int) + 1)) b o = some v := fun b o v hv hne => by
    rw [up_other _ _ (by omega)]
    exact hv
  refine ⟨st, h.ws.keep h.sh (fun b o v hv ht => fr b o v hv ?_) st.shape (fun mb hm hmp => hmp.step h.agr (st.sx (fun _ => False)) (fun h => h)), h.ah.keep h.sh (fun b o v hv ht hne => fr b o v hv ?_) st.shape (h.ah.mp.step h.agr (st.sx (fun _ => False)) (fun h => h)), fun b o v hv hne => fr b o v hv ?_⟩
  · rintro ⟨rfl, rfl⟩
    rw [h.sh.kP] at ht
    rcases ht with ⟨_, a⟩ | ⟨a, _⟩ | a | a | a
    · omega
    all_goals simp at a
  · rintro ⟨rfl, rfl⟩
    exact hne ⟨h.sh.kP, rfl⟩
  · rintro ⟨rfl, rfl⟩
    exact hne h.sh.kP

theorem NewA.fr {M M' : Cel} {cb : Nat} (h : NewA M cb) (fr : ∀ o v, M cb o = some v → o ≤ 19 → M' cb o = some v) : NewA M' cb :=
  ⟨fr _ _ h.c8 (by omega), fr _ _ h.c9 (by omega), fr _ _ h.c10 (by omega), fr _ _ h.c11 (by omega), fr _ _ h.c12 (by omega), fr _ _ h.c13 (by omega), fr _ _ h.c14 (by omega), fr _ _ h.c17 (by omega), fr _ _ h.c18 (by omega), fr _ _ h.c19 (by omega)⟩
theorem NewW.fr {M M' : Cel} {cb : Nat} (h : NewW M cb) (fr : ∀ o v, M cb o = some v → M' cb o = some v) : NewW M' cb :=
  ⟨fr _ _ h.c20, fr _ _ h.c21, fr _ _ h.c22, fr _ _ h.c23, fr _ _ h.c25, fr _ _ h.c26, fr _ _ h.c27, fr _ _ h.c30, fr _ _ h.c31⟩

theorem ne_toList {a b : ByteArray} (h : a ≠ b) : a.data.toList ≠ b.data.toList := fun e => h (by
  cases a
  cases b
  congr
  exact Array.ext' e)

/-- From the new tail's word to the whole. -/
theorem onew_of {g : Gst} {i K : Nat} {W : World} {M : Cel} {cb : Nat} {st : ByteArray} {kd : Nat → Nat × Nat} {F : Nat → Nat} {e gb go : Nat} {gbw gow : Nat} {m2 : Option Nat} {nn : Nat} {f1 f2 : List UInt8 → Option Nat} {w2 w' : World} {M2 : Cel} (h : Fas g i K W M) (hA2 : Agr w2 M2)
    (hsx : Sx (fun k => k = g.m1 ∨ g.m2 = some k) W M w2 M2) (hk : ∀ b, b < W.heap.size → kd b = g.kd b) (fr8 : ∀ b o v, M b o = some v → (g.kd b).1 = 8 → M2 b o = some v) (hm2 : ∀ mb, m2 = some mb → g.m2 = some mb ∨ W.heap.size ≤ mb) (kcb : kd cb = (1, i)) (lm1 : g.m1 < W.heap.size)
    (hnn : nn = if st = ⟨#[]⟩ then g.nn else g.nn + 1)
    (hf : (st = ⟨#[]⟩ ∧ f1 = g.f1 ∧ f2 = g.f2 ∧ gb = cb ∧ go = 12) ∨ (st ≠ ⟨#[]⟩ ∧ f1 = (fun l => if l = st.data.toList then some gb else g.f1 l) ∧ f2 = (fun l => if l = st.data.toList then some gbw else g.f2 l) ∧ kd gb = (4, g.ng) ∧ go = 0 ∧ kd gbw = (5, g.ng) ∧ gow = 0 ∧ ∀ id, id < g.ng → g.nm id ≠ st))
    (np : NPost kd (g.s.new i cb g.ng) F (upd g.wg g.ng (gbw, gow)) (upd g.E i e) (upd g.ag g.ng (gb, go)) (upd g.nm g.ng st) i g.ng g.m1 m2 nn nn f1 f2 g.nu (g.nr + 1) g.kc K w2 M2 w') : ONew g i K W M cb st w' := by
  obtain ⟨M', hu, hr, sp, q0, fr, hcase⟩ := np
  have hs' : ShOk kd (g.s.new i cb g.ng) (i + 1) (g.ng + 1) := (h.ws.sh h.sh h.agr hk).new kcb
  have e1 : ((i + 1 : Nat) : Int) = (i : Int) + 1 := by omega
  have fr8' : ∀ b o v, M b o = some v → (g.kd b).1 = 8 → M' b o = some v := fun b o v hv h8 => fr b o v (fr8 b o v hv h8) (by rw [hk b (h.agr.lt hv)]; exact h8)
  have mm' : m2 ≠ some g.m1 := fun e' => by
    rcases hm2 _ e' with e2 | e2
    · exact h.mm e2
    · omega
  have oldA : ∀ id, id < g.ng → (g.ag id).1 < W.heap.size := fun id hid => h.agr.lt (h.ah.g.g0 id hid)
  have oldW : ∀ id, id < g.ng → (g.wg id).1 < W.heap.size := fun id hid => h.agr.lt (h.ws.g.g1 id hid)
  have n1' : ∀ id, id < g.ng + 1 → upd g.nm g.ng st id ≠ ⟨#[]⟩ → f1 (upd g.nm g.ng st id).data.toList = some (upd g.ag g.ng (gb, go) id).1 ∧ kd (upd g.ag g.ng (gb, go) id).1 = (4, id) ∧ (upd g.ag g.ng (gb, go) id).2 = 0 := by
    intro id hid hne
    by_cases ei : id = g.ng
    · subst ei
      rw [upd_eq] at hne ⊢
      rw [upd_eq]
      rcases hf with ⟨a, _, _, _, _⟩ | ⟨_, rfl, _, k4, k0, _, _, _⟩
      · exact absurd a hne
      · exact ⟨by simp, k4, k0⟩
    · have hid' : id < g.ng := by omega
      rw [upd_ne _ _ ei] at hne ⊢
      rw [upd_ne _ _ ei]
      obtain ⟨a1, a2, a3⟩ := h.n1 id hid' hne
      refine ⟨?_, (hk _ (oldA id hid')).trans a2, a3⟩
      rcases hf with ⟨_, rfl, _, _, _⟩ | ⟨_, rfl, _, _, _, _, _, hn⟩
      · exact a1
      · have := ne_toList (hn id hid')
        simp only [if_neg this]
        exact a1
  have n2' : ∀ id, id < g.ng + 1 → upd g.nm g.ng st id ≠ ⟨#[]⟩ → f2 (upd g.nm g.ng st id).data.toList = some (upd g.wg g.ng (gbw, gow) id).1 ∧ kd (upd g.wg g.ng (gbw, gow) id).1 = (5, id) ∧ (upd g.wg g.ng (gbw, gow) id).2 = 0 := by
    intro id hid hne
    by_cases ei : id = g.ng
    · subst ei
      rw [upd_eq] at hne ⊢
      rw [upd_eq]
      rcases hf with ⟨a, _, _, _, _⟩ | ⟨_, _, rfl, _, _, k5, k0, _⟩
      · exact absurd a hne
      · exact ⟨by simp, k5, k0⟩
    · have hid' : id < g.ng := by omega
      rw [upd_ne _ _ ei] at hne ⊢
      rw [upd_ne _ _ ei]
      obtain ⟨a1, a2, a3⟩ := h.n2 id hid' hne
      refine ⟨?_, (hk _ (oldW id hid')).trans a2, a3⟩
      rcases hf with ⟨_, _, rfl, _, _⟩ | ⟨_, _, rfl, _, _, _, _, hn⟩
      · exact a1
      · have := ne_toList (hn id hid')
        simp only [if_neg this]
        exact a1
  have n3' : ∀ l, (∀ id, id < g.ng + 1 → upd g.nm g.ng st id ≠ ⟨#[]⟩ → (upd g.nm g.ng st id).data.toList ≠ l) → f1 l = none ∧ f2 l = none := by
    intro l hl
    have hold : ∀ id, id < g.ng → g.nm id ≠ ⟨#[]⟩ → (g.nm id).data.toList ≠ l := fun id hid hne => by
      have := hl id (by omega)
      rw [upd_ne _ _ (by omega)] at this
      exact this hne
    obtain ⟨a1, a2⟩ := h.n3 l hold
    rcases hf with ⟨_, rfl, rfl, _, _⟩ | ⟨hne, rfl, rfl, _⟩
    · exact ⟨a1, a2⟩
    · have := hl g.ng (by omega)
      rw [upd_eq] at this
      have hne2 : ¬ l = st.data.toList := fun e' => this hne e'.symm
      simp only [if_neg hne2]
      exact ⟨a1, a2⟩
  have n4' : ∀ id, id < g.ng + 1 → upd g.nm g.ng st id = ⟨#[]⟩ → upd g.ag g.ng (gb, go) id = ((g.s.new i cb g.ng).C ((g.s.new i cb g.ng).fi id), 12) := by
    intro id hid hne
    by_cases ei : id = g.ng
    · subst ei
      rw [upd_eq] at hne ⊢
      have h1 : (g.s.new i cb g.ng).fi g.ng = i := upd_eq _ _ _
      have h2 : (g.s.new i cb g.ng).C i = cb := upd_eq _ _ _
      rw [h1, h2]
      rcases hf with ⟨_, _, _, rfl, rfl⟩ | ⟨hn, _⟩
      · rfl
      · exact absurd hne hn
    · have hid' : id < g.ng := by omega
      rw [upd_ne _ _ ei] at hne ⊢
      have hfi := h.sh.fi_ id hid'
      have h1 : (g.s.new i cb g.ng).fi id = g.s.fi id := upd_ne _ _ ei
      have h2 : (g.s.new i cb g.ng).C (g.s.fi id) = g.s.C (g.s.fi id) := upd_ne _ _ (by omega)
      rw [h1, h2]
      exact h.n4 id hid' hne
  have sxF : Sx (fun k => k = g.m1 ∨ g.m2 = some k) W M w' M' := hsx.trans (sp.sx _)
  rcases hcase with ⟨hb, hpos, wsF, asF⟩ | ⟨hb, wsF, asF⟩
  · refine ⟨⟨kd, (g.s.new i cb g.ng).keep g.ng, F, upd g.wg g.ng (gbw, gow), upd g.E i e, upd g.ag g.ng (gb, go), upd g.nm g.ng st, g.ng + 1, g.m1, m2, nn, f1, f2, hu, g.nu, hr, g.nr, g.kc + 1⟩, M', ⟨sxF, ⟨sp.agr, hs'.keep g.ng, wsF, asF, ?_, mm', n1', n2', n3', n4'⟩, hk, fr8', rfl, hm2⟩, rfl, rfl, hnn, Or.inl ⟨hb, rfl, rfl, rfl, rfl⟩⟩
    show M' g.s.P 0 = _
    rw [e1]
    exact q0
  · refine ⟨⟨kd, g.s.new i cb g.ng, F, upd g.wg g.ng (gbw, gow), upd g.E i e, upd g.ag g.ng (gb, go), upd g.nm g.ng st, g.ng + 1, g.m1, m2, nn, f1, f2, hu, g.nu + 1, hr, g.nr + 1, g.kc⟩, M', ⟨sxF, ⟨sp.agr, hs', wsF, asF, ?_, mm', n1', n2', n3', n4'⟩, hk, fr8', rfl, hm2⟩, rfl, rfl, hnn, Or.inr ⟨hb, rfl, rfl, rfl, rfl⟩⟩
    show M' g.s.P 0 = _
    rw [e1]
    exact q0
end Go.Proofs.Ybulkdcoi
