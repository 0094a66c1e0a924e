/-
  'open' BEHIND THE CHOICE OF A NEW GROUP: its first connection is kept, or the group is ranked.
-/
import Derived.Test.YbulkdcoiAS
namespace Go.Proofs.Ybulkdcoi
open Go.RowKit
set_option linter.unusedVariables false

theorem AgeOkM.sub {R R' : Nat → Nat → Prop} {M : Cel} {gb go : Nat} (h : AgeOkM R M gb go) (hs : ∀ b o, R' b o → R b o) : AgeOkM R' M gb go := by
  obtain ⟨n, o, eb, cb, co, hn, h2, h3, h4, h5⟩ := h
  exact ⟨n, o, eb, cb, co, hn, h2.sub hs, h3.sub hs, h4.sub hs, h5.sub hs⟩

/-- What a new group's tail leaves: s, F, wg, E, ag, nm speak of the state with the new connection and group. -/
def NPost (kd : Nat → Nat × Nat) (s : Sh) (F : Nat → Nat) (wg : Nat → Nat × Nat) (E : Nat → Nat) (ag : Nat → Nat × Nat) (nm : Nat → ByteArray) (i ng m1 : Nat) (m2 : Option Nat) (nn n2 : Nat) (f1 f2 : List UInt8 → Option Nat) (nu nr kc K : Nat) (W : World) (M : Cel) (w' : World) : Prop :=
  ∃ M' hu hr, Stp W M w' M' ∧ M' s.P 0 = some (.int .i64 ((i : Int) + 1)) ∧ (∀ b o v, M b o = some v → (kd b).1 = 8 → M' b o = some v) ∧
    ((kc < K ∧ 0 < nr ∧ WS kd (s.keep ng) F wg (i + 1) (ng + 1) m2 n2 f2 hr (nr - 1) w' M' ∧ AS kd (s.keep ng) E ag nm (i + 1) (ng + 1) m1 nn f1 hu nu (kc + 1) K w' M') ∨
     (K ≤ kc ∧ WS kd s F wg (i + 1) (ng + 1) m2 n2 f2 hr nr w' M' ∧ AS kd s E ag nm (i + 1) (ng + 1) m1 nn f1 hu (nu + 1) kc K w' M'))

set_option maxHeartbeats 1000000 in
theorem new_tail {kd : Nat → Nat × Nat} {s : Sh} {F : Nat → Nat} {wg : Nat → Nat × Nat} {E : Nat → Nat} {ag : Nat → Nat × Nat} {nm : Nat → ByteArray} {i ng m1 : Nat} {m2 : Option Nat} {nn n2 : Nat} {f1 f2 : List UInt8 → Option Nat} {hu hr : Option (Nat × Nat)} {nu nr kc K : Nat} {W : World} {M : Cel} {cb gb go : Nat} {gk : Nat × Nat} {st : ByteArray} {v8 v9 v10 v11 v2 v5 : Value}
    (hA : Agr W M) (hs : ShOk kd s i ng) (ws : WS kd (s.new i cb ng) F wg (i + 1) (ng + 1) m2 n2 f2 hr nr W M) (ah : AS kd s E ag nm i ng m1 nn f1 hu nu kc K W M) (kcb : kd cb = (1, i)) (hkg : (gk = (1, i) ∧ gb = cb ∧ go = 12 ∧ st = ⟨#[]⟩) ∨ (gk = (4, ng) ∧ go = 0)) (hk : kd gb = gk) (kf : kd W.heap.size = (2, i)) (knew : ∀ b, W.heap.size < b → kd b = (6, 0))
    (hi : i ≤ 1000) (hnu : nu ≤ 1000) (hnr : nr ≤ 1000) (hkc : kc ≤ 1000) (p0 : M s.P 0 = some (.int .i64 ((i : Int) + 1)))
    (c8 : M cb 8 = some v8) (c9 : M cb 9 = some v9) (c10 : M cb 10 = some v10) (c11 : M cb 11 = some v11) (g0 : M gb go = some (.string st)) (g1 : M gb (go + 1) = some (.pointer none)) (g2 : M gb (go + 1 + 1) = some v2) (g5 : M gb (go + 1 + 4) = some v5) (g6 : M gb (go + 6) = some (.bool false)) (g7 : M gb (go + 7) = some (.int .i64 0))
    (f0 : M (F i) 0 = some (ptr (wg ng).1 ((wg ng).2 + 2))) (ff1 : M (F i) 1 = some (ptr (wg ng).1 ((wg ng).2 + 2))) (ff2 : M (F i) 2 = some (ptr (wg ng).1 ((wg ng).2 + 2))) :
    ATailN W s.P cb gb go i kc K (NPost kd (s.new i cb ng) F wg (upd E i W.heap.size) (upd ag ng (gb, go)) (upd nm ng st) i ng m1 m2 nn n2 f1 f2 nu nr kc K W M) := by
  have kP := hs.kP
  have hs' := hs.new (cb := cb) kcb
  have hgk2 : (gk = (1, i) ∧ go = 12) ∨ gk.1 = 4 := by
    rcases hkg with ⟨rfl, _, rfl, _⟩ | ⟨rfl, _⟩
    · exact Or.inl ⟨rfl, rfl⟩
    · exact Or.inr rfl
  have kg3 : (gk = (1, i) ∧ gb = cb ∧ go = 12) ∨ ∃ id, gk = (4, id) ∧ go = 0 := by
    rcases hkg with ⟨a, b, c, _⟩ | ⟨a, b⟩
    · exact Or.inl ⟨a, b, c⟩
    · exact Or.inr ⟨ng, a, b⟩
  have hgP : gb ≠ s.P := fun e => by
    rw [e, kP] at hk
    rcases hkg with ⟨h, _, _, _⟩ | ⟨h, _⟩ <;> rw [← hk] at h <;> simp at h
  have hcP : cb ≠ s.P := fun e => by rw [e, kP] at kcb; simp at kcb
  have gmem : ¬ MemU s ag ng gb go := by
    rintro ⟨id, hid, _, he⟩
    have hfi := hs.fi_ id hid
    rcases ah.g.kg id hid with ⟨e, _⟩ | ⟨e, _⟩
    · have h1 := hs.kC _ hfi.1
      have hb : gb = s.C (s.fi id) := by rw [he] at e; simpa using congrArg Prod.fst e
      rw [← hb, hk] at h1
      rcases hkg with ⟨rfl, _, _, _⟩ | ⟨rfl, _⟩ <;> simp at h1
      omega
    · rw [he] at e
      simp at e
      rw [hk] at e
      rcases hkg with ⟨rfl, _, _, _⟩ | ⟨rfl, _⟩ <;> simp at e
      omega
  have hgne : ∀ id, id < ng → ag id ≠ (gb, go) := fun id hid he => by
    have hfi := hs.fi_ id hid
    rcases ah.g.kg id hid with ⟨e, _⟩ | ⟨e, _⟩
    · have h1 := hs.kC _ hfi.1
      have hb : gb = s.C (s.fi id) := by rw [he] at e; simpa using congrArg Prod.fst e
      rw [← hb, hk] at h1
      rcases hkg with ⟨rfl, _, _, _⟩ | ⟨rfl, _⟩ <;> simp at h1
      omega
    · rw [he] at e
      simp at e
      rw [hk] at e
      rcases hkg with ⟨rfl, _, _, _⟩ | ⟨rfl, _⟩ <;> simp at e
      omega
  have gKU : KU kd gb (go + 7) := by
    rcases hkg with ⟨rfl, _, rfl, _⟩ | ⟨rfl, rfl⟩
    · exact Or.inl ⟨by rw [hk], rfl⟩
    · exact Or.inr ⟨by rw [hk], rfl⟩
  have hKU : ∀ b o, KM (Mem1 (MemU s ag ng) gb go) b o → KU kd b o := by
    rintro b o ⟨xb, xo, hx | ⟨rfl, rfl⟩, rfl, rfl⟩
    · obtain ⟨id, hid, _, he⟩ := hx
      have := KM_KU ah.g hs hid
      rw [he] at this
      exact this
    · exact gKU
  -- ranks and rows lie outside what the tail touches
  have nT : ∀ b o, KU kd b o ∨ arrB hu b ∨ (b = s.P ∧ o ≠ 5) ∨ TWc (kd b) o ∨ (kd b).1 = 8 → ¬ Ta gk go i i (kd b) o := by
    intro b o hin hT
    rcases hT with ⟨a, a2, a3⟩ | ⟨a, a2⟩ | ⟨a, a2⟩ | ⟨a, a2⟩
    · rcases hin with (⟨c, c2⟩ | ⟨c, c2⟩) | c | ⟨rfl, c⟩ | c | c
      · omega
      · rw [a] at c; simp at c
      · rw [ah.karr b c] at a; simp at a
      · rw [kP] at a; simp at a
      · exact TA_not_TW (Ta_sub (la := i) hgk2 (Or.inl ⟨a, a2, a3⟩)) c
      · rw [a] at c; simp at c
    · rcases hin with (⟨c, c2⟩ | ⟨c, c2⟩) | c | ⟨rfl, c⟩ | c | c
      · rcases hkg with ⟨rfl, _, rfl, _⟩ | ⟨rfl, rfl⟩
        · omega
        · rw [a] at c; simp at c
      · rcases hkg with ⟨rfl, _, rfl, _⟩ | ⟨rfl, rfl⟩
        · rw [a] at c; simp at c
        · omega
      · rw [ah.karr b c] at a
        rcases hkg with ⟨rfl, _, _, _⟩ | ⟨rfl, _⟩ <;> simp at a
      · rw [kP] at a
        rcases hkg with ⟨rfl, _, _, _⟩ | ⟨rfl, _⟩ <;> simp at a
      · exact TA_not_TW (Ta_sub (la := i) hgk2 (Or.inr (Or.inl ⟨a, a2⟩))) c
      · rw [a] at c
        rcases hkg with ⟨rfl, _, _, _⟩ | ⟨rfl, _⟩ <;> simp at c
    · rcases hin with (⟨c, c2⟩ | ⟨c, c2⟩) | c | ⟨rfl, c⟩ | c | c
      · rw [a] at c; simp at c
      · rw [a] at c; simp at c
      · rw [ah.karr b c] at a; simp at a
      · exact c a2
      · exact TA_not_TW (Or.inl ⟨a, by omega⟩) c
      · rw [a] at c; simp at c
    · rcases hin with (⟨c, c2⟩ | ⟨c, c2⟩) | c | ⟨rfl, c⟩ | c | c
      · rw [a] at c; simp at c
      · rw [a] at c; simp at c
      · rw [ah.karr b c] at a; simp at a
      · rw [kP] at a; simp at a
      · exact TA_not_TW (Or.inr (Or.inr (Or.inl (by rw [a])))) c
      · rw [a] at c; simp at c
  unfold ATailN
  refine (age_tail kd W M s.P cb gb go 0 W.heap.size 0 i i gk v8 v9 v10 v11 hA kP kcb kg3 hk (Or.inr (Nat.le_refl _)) (by omega) c8 c9 c10 c11 ah.p5 (Or.inl ⟨rfl, g1, ⟨v2, g2⟩, ⟨v5, g5⟩⟩)).mono fun e w2 ⟨he, k10, y10, M3, st3, ad, q5, fr3⟩ => ⟨W.heap.size, he, ⟨_, k10⟩, y10, _, rfl, ?_⟩
  generalize w2.setCell ⟨cb, 10, none⟩ (ptr W.heap.size 0) = w3 at *
  clear k10 y10 he
  have gn : ∀ o v, (o = 0 ∨ o = 6 ∨ o = 7) → M gb (go + o) = some v → M3 gb (go + o) = some v := fun o v ho hv => fr3 _ _ _ hv (by
    rw [hk]
    rintro (⟨a, a2, a3⟩ | ⟨a, a2⟩ | ⟨a, a2⟩ | ⟨a, a2⟩)
    · rcases hkg with ⟨rfl, _, rfl, _⟩ | ⟨rfl, rfl⟩
      · omega
      · simp at a
    · omega
    · rcases hkg with ⟨rfl, _, rfl, _⟩ | ⟨rfl, rfl⟩ <;> simp at a
    · rcases hkg with ⟨rfl, _, rfl, _⟩ | ⟨rfl, rfl⟩ <;> simp at a)
  have q0 := gn 0 _ (by omega) g0
  have q6 := gn 6 _ (by omega) g6
  have q7 := gn 7 _ (by omega) g7
  have ag3 : AG kd (s.new i cb ng) (upd E i W.heap.size) (upd ag ng (gb, go)) (upd nm ng st) (i + 1) (ng + 1) M3 := ah.g.new hs (la := i) (fb := 0) hkg hk kf (Nat.le_refl _) (fun b o v hv _ hT => fr3 b o v hv hT) ad q0 q6
  have pf : ∀ o v, o ≠ 5 → M s.P o = some v → M3 s.P o = some v := fun o v ho hv => fr3 _ _ _ hv (nT _ _ (Or.inr (Or.inr (Or.inl ⟨rfl, ho⟩))))
  have ws3 : WS kd (s.new i cb ng) F wg (i + 1) (ng + 1) m2 n2 f2 hr nr w3 M3 := ws.keep hs' (fun b o v hv ht => fr3 b o v hv (nT b o (Or.inr (Or.inr (Or.inr (Or.inl ht)))))) st3.shape (fun mb hm hmp => hmp.step hA (st3.sx (fun _ => False)) (fun h => h))
  have rk3 : RkZ w3 M3 (KM (Mem1 (MemU s ag ng) gb go)) (MemU s ag ng) s.P 4 hu nu 86 := (ah.rk.keep st3.shape (fun _ _ => Iff.rfl) fun b o v hv hin => fr3 b o v hv (nT b o (by
    rcases hin with ⟨xb, xo, ⟨id, hid, _, he⟩, rfl, rfl⟩ | hin | ⟨rfl, rfl⟩
    · left
      have := KM_KU ah.g hs hid
      rw [he] at this
      exact this
    · exact Or.inr (Or.inl hin)
    · exact Or.inr (Or.inr (Or.inl ⟨rfl, by omega⟩))))).chK (fun gb' go' hm => ⟨gb', go', Or.inl hm, rfl, rfl⟩) (fun hK => by
    rcases hKU _ _ hK with ⟨h, _⟩ | ⟨h, _⟩ <;> rw [kP] at h <;> simp at h)
  have r03 : ∀ id, id < ng → s.kp id = true → M3 (ag id).1 ((ag id).2 + 7) = some (.int .i64 0) := fun id hid hw => fr3 _ _ _ (ah.r0 id hid hw) (nT _ _ (Or.inl (KM_KU ah.g hs hid)))
  have mp3 : Mp w3 m1 nn f1 := ah.mp.step hA (st3.sx (fun _ => False)) (fun h => h)
  have sz3 : W.heap.size < w3.heap.size := st3.agr.lt ad.f0
  have kpn : ∀ d, d < ng → (s.new i cb ng).kp d = s.kp d := fun d hd => upd_ne _ _ (by omega)
  have kpi : (s.new i cb ng).kp ng = false := upd_eq _ _ _
  have Gn : ∀ d, d < ng → upd ag ng (gb, go) d = ag d := fun d hd => upd_ne _ _ (by omega)
  have Gi : upd ag ng (gb, go) ng = (gb, go) := upd_eq _ _ _
  refine ⟨(st3.agr _ _ _ ad.g5).1, (st3.agr _ _ _ (pf 2 _ (by omega) ah.p2)).1, (st3.agr _ _ _ (pf 1 _ (by omega) ah.p1)).1, fun q => ⟨fun hb => ?_, fun hb => ?_⟩⟩
  · -- kept
    have hA3 : Agr (w3.drewN q) M3 := st3.agr
    have sq : Stp W M (w3.drewN q) M3 := st3.drewN q
    have p2' := pf 2 _ (by omega) ah.p2
    have a1 := sq.set q6 (.bool true)
    have a2 := a1.set (b := s.P) (o := 2) (u := .int .i64 kc) (by rw [up_other _ _ (Or.inl (Ne.symm hgP))]; exact p2') (.int .i64 ((kc : Int) + 1))
    obtain ⟨M4, hM4⟩ : ∃ M4, M4 = up (up M3 gb (go + 6) (.bool true)) s.P 2 (.int .i64 ((kc : Int) + 1)) := ⟨_, rfl⟩
    rw [← hM4] at a2
    have o4 : ∀ b o, ¬ (b = gb ∧ o = go + 6) → ¬ (b = s.P ∧ o = 2) → M4 b o = M3 b o := fun b o n1 n2 => by
      rw [hM4, up_other _ _ (by omega), up_other _ _ (by omega)]
    have m46 : M4 gb (go + 6) = some (.bool true) := by rw [hM4, up_other _ _ (Or.inl hgP), up_same]
    have m4P : M4 s.P 2 = some (.int .i64 ((kc : Int) + 1)) := by rw [hM4, up_same]
    have m4g : ∀ o v, o ≠ 6 → M3 gb (go + o) = some v → M4 gb (go + o) = some v := fun o v ho hv => (o4 _ _ (by omega) (fun h => hgP h.1)).trans hv
    have hH6 : W.heap.size ≠ gb := fun e => by
      have := hA.lt g0
      omega
    have m4H : M4 W.heap.size 3 = some (.iface 131 (ptr cb 8)) := (o4 _ _ (fun h => hH6 h.1) (fun h => by have := hA.lt p0; omega)).trans ad.f3
    have m4c : M4 cb 8 = some (ptr cb 0) := (o4 _ _ (by
      rintro ⟨e, h⟩
      rcases hkg with ⟨_, _, rfl, _⟩ | ⟨rfl, _⟩
      · omega
      · rw [← e, kcb] at hk; simp at hk) (fun h => hcP h.1)).trans ad.c8
    have hW4 : Stp W M _ M4 := a2
    refine keep_raw (w3.drewN q) s.P cb gb go kc W.heap.size _ hkc hgP (hA3 _ _ _ q6).2 ⟨_, (hA3 _ _ _ q6).1⟩ (hA3 _ _ _ p2').1 (hA3 _ _ _ p2').2 _ rfl (a2.agr _ _ _ (m4g 7 _ (by omega) q7)).1 (a2.agr _ _ _ (m4g 1 _ (by omega) ad.g1)).1 (a2.agr _ _ _ (m4g 5 _ (by omega) ad.g5)).1 (a2.agr _ _ _ m4H).1 (a2.agr _ _ _ m4c).1 ?_
    have sh34 : ∀ k n t, Shp w3 k n t → Shp (((w3.drewN q).setCell ⟨gb, go + 6, none⟩ (.bool true)).setCell ⟨s.P, 2, none⟩ (.int .i64 ((kc : Int) + 1))) k n t := fun k n t h => Shp.set (Shp.set (W := w3.drewN q) h _ _ _) _ _ _
    generalize ((w3.drewN q).setCell ⟨gb, go + 6, none⟩ (.bool true)).setCell ⟨s.P, 2, none⟩ (.int .i64 ((kc : Int) + 1)) = w4 at *
    -- the way side at M4
    have nT4 : ∀ b o, TWc (kd b) o ∨ (kd b).1 = 8 → M4 b o = M3 b o := fun b o hin => o4 b o (by
      rintro ⟨rfl, rfl⟩
      rcases hin with hin | hin
      · exact TA_not_TW (by
          rw [hk]
          rcases hkg with ⟨rfl, _, rfl, _⟩ | ⟨rfl, rfl⟩
          · exact Or.inr (Or.inl ⟨rfl, by omega, by omega⟩)
          · exact Or.inr (Or.inr (Or.inr (Or.inl rfl)))) hin
      · rw [hk] at hin
        rcases hkg with ⟨rfl, _, _, _⟩ | ⟨rfl, _⟩ <;> simp at hin) (by
      rintro ⟨rfl, rfl⟩
      rw [kP] at hin
      rcases hin with (⟨_, a⟩ | ⟨a, _⟩ | a | a | a) | a
      · omega
      all_goals simp at a)
    have ws4 : WS kd (s.new i cb ng) F wg (i + 1) (ng + 1) m2 n2 f2 hr nr w4.drew M4 := ws.keep hs' (fun b o v hv ht => (nT4 b o (Or.inl ht)).trans (fr3 b o v hv (nT b o (Or.inr (Or.inr (Or.inr (Or.inl ht))))))) hW4.drew.shape (fun mb hm hmp => hmp.step hA (hW4.drew.sx (fun _ => False)) (fun h => h))
    have fiN : (s.new i cb ng).fi ng = i := upd_eq _ _ _
    have CN : (s.new i cb ng).C i = cb := upd_eq _ _ _
    have kFi := ws.g.kF i (by omega)
    have fF : ∀ o v, M (F i) o = some v → M4 (F i) o = some v := fun o v hv => (nT4 _ _ (Or.inl (Or.inr (Or.inr (Or.inl (by rw [kFi])))))).trans (fr3 _ _ _ hv (nT _ _ (Or.inr (Or.inr (Or.inr (Or.inl (Or.inr (Or.inr (Or.inl (by rw [kFi])))))))))) 
    have hsp := way_spare ws4 hs' (M := M4) hW4.agr (id := ng) (by omega) (upd_eq _ _ _) kpi hnr (by rw [fiN]; exact fF _ _ f0) (by rw [fiN]; exact fF _ _ ff1) (by rw [fiN]; exact fF _ _ ff2)
    rw [fiN, CN] at hsp
    refine hsp.mono fun e w' ⟨he, hpos, M5, st5, ws5, fr5⟩ => ⟨he, M5, hu, hr, hW4.trans ((Stp.refl hW4.agr).drew.trans st5), ?_, ?_, Or.inl ⟨hb, hpos, ws5, ?_⟩⟩
    · refine fr5 s.P _ _ ((o4 _ _ (fun h => hgP h.1.symm) (by omega)).trans (pf 0 _ (by omega) p0)) ?_
      show ¬ TWc (kd s.P) 0
      rw [kP]
      rintro (⟨_, a⟩ | ⟨a, _⟩ | a | a | a)
      · omega
      all_goals simp at a
    · intro b o v hv h8
      refine fr5 _ _ _ ((nT4 b o (Or.inr h8)).trans (fr3 b o v hv (nT b o (Or.inr (Or.inr (Or.inr (Or.inr h8))))))) ?_
      rintro (⟨a, _⟩ | ⟨a, _⟩ | a | a | a)
      · rw [a] at h8; simp at h8
      all_goals omega
    · -- the age side
      have ag4 : AG kd ((s.new i cb ng).keep ng) (upd E i W.heap.size) (upd ag ng (gb, go)) (upd nm ng st) (i + 1) (ng + 1) M4 := ag3.kept hs' (id := ng) (by omega) (fun b o v hv hc hne => (o4 b o (by rw [Gi] at hne; exact hne) (by
        rintro ⟨rfl, rfl⟩
        rw [kP] at hc
        rcases hc with ⟨a, _, _⟩ | a | ⟨a, _⟩ <;> simp at a)).trans hv) (by rw [Gi]; exact m46)
      have fr5' : ∀ b o v, M4 b o = some v → TAc (kd b) o → M5 b o = some v := fun b o v hv ht => fr5 b o v hv (TA_not_TW ht)
      have pc : ∀ o v, o ≤ 5 → M4 s.P o = some v → M5 s.P o = some v := fun o v ho hv => fr5' _ _ _ hv (by rw [kP]; exact Or.inl ⟨rfl, ho⟩)
      have o4P : ∀ o, o ≠ 2 → M4 s.P o = M3 s.P o := fun o ho => o4 _ _ (fun h => hgP h.1.symm) (by omega)
      have acT : ∀ k o, Acell k o → TAc k o := by
        rintro k o (⟨a, c, d⟩ | a | ⟨a, c⟩)
        · exact Or.inr (Or.inl ⟨a, c, by omega⟩)
        · exact Or.inr (Or.inr (Or.inl a))
        · exact Or.inr (Or.inr (Or.inr (Or.inl a)))
      have m46n : ∀ b o, KU kd b o ∨ arrB hu b → M4 b o = M3 b o := fun b o hin => o4 b o (by
        rintro ⟨rfl, rfl⟩
        rcases hin with (⟨a, a2⟩ | ⟨a, a2⟩) | a
        · rcases hkg with ⟨rfl, _, rfl, _⟩ | ⟨rfl, rfl⟩
          · omega
          · rw [hk] at a; simp at a
        · rcases hkg with ⟨rfl, _, rfl, _⟩ | ⟨rfl, rfl⟩
          · rw [hk] at a; simp at a
          · omega
        · have := ah.karr _ a
          rw [hk] at this
          rcases hkg with ⟨rfl, _, rfl, _⟩ | ⟨rfl, rfl⟩ <;> simp at this) (by
        rintro ⟨rfl, rfl⟩
        rcases hin with (⟨a, a2⟩ | ⟨a, a2⟩) | a
        · omega
        · omega
        · have := ah.karr _ a
          rw [kP] at this; simp at this)
      have hmiff : ∀ xb xo, MemU s ag ng xb xo ↔ MemU ((s.new i cb ng).keep ng) (upd ag ng (gb, go)) (ng + 1) xb xo := by
        intro xb xo
        have kpN : ∀ d, d ≠ ng → ((s.new i cb ng).keep ng).kp d = (s.new i cb ng).kp d := fun d hd => upd_ne _ _ hd
        have kpI : ((s.new i cb ng).keep ng).kp ng = true := upd_eq _ _ _
        constructor
        · rintro ⟨id, hid, h1, h2⟩
          exact ⟨id, by omega, by rw [kpN id (by omega), kpn id hid]; exact h1, by rw [Gn id hid]; exact h2⟩
        · rintro ⟨id, hid, h1, h2⟩
          by_cases e : id = ng
          · subst e
            rw [kpI] at h1
            cases h1
          · rw [kpN id e, kpn id (by omega)] at h1
            rw [Gn id (by omega)] at h2
            exact ⟨id, by omega, h1, h2⟩
      refine ⟨ag4.keep (hs'.keep ng) fun b o v hv hc => fr5' b o v hv (acT _ _ hc), pc 1 _ (by omega) ((o4P 1 (by omega)).trans (pf 1 _ (by omega) ah.p1)), ?_, pc 3 _ (by omega) ((o4P 3 (by omega)).trans (pf 3 _ (by omega) ah.p3)), ?_, ?_, ?_, ah.karr, fun id hid hw => ?_⟩
      · have := pc 2 _ (by omega) m4P
        have e1 : ((kc + 1 : Nat) : Int) = (kc : Int) + 1 := by omega
        rw [e1]
        exact this
      · exact (ah.mp.step hA (hW4.sx (fun _ => False)) (fun h => h)).step (W := w4) hW4.agr (((Stp.refl hW4.agr).drew.trans st5).sx (fun _ => False)) (fun h => h)
      · have := pc 5 _ (by omega) ((o4P 5 (by omega)).trans q5)
        have e1 : ((i + 1 : Nat) : Int) = (i : Int) + 1 := by omega
        rw [e1]
        exact this
      · refine (((rk3.keep (w' := w') (fun k n t h => ?_) hmiff fun b o v hv hin => ?_).chK (fun gb' go' hm => ⟨gb', go', hm, rfl, rfl⟩) ?_))
        · exact st5.shape k n t (sh34 k n t h)
        · rcases hin with hin | hin | ⟨rfl, rfl⟩
          · have hh := hKU b o hin
            exact fr5' b o v ((m46n b o (Or.inl hh)).trans hv) (KU_sub hh)
          · exact fr5' b o v ((m46n b o (Or.inr hin)).trans hv) (by rw [ah.karr b hin]; exact Or.inr (Or.inr (Or.inr (Or.inr rfl))))
          · exact pc 4 v (by omega) ((o4P 4 (by omega)).trans hv)
        · rintro ⟨xb, xo, hx, e1, e2⟩
          have hK : KM (Mem1 (MemU s ag ng) gb go) s.P 4 := ⟨xb, xo, Or.inl ((hmiff xb xo).2 hx), e1, e2⟩
          rcases hKU _ _ hK with ⟨h, _⟩ | ⟨h, _⟩ <;> rw [kP] at h <;> simp at h
      · by_cases e : id = ng
        · subst e
          rw [Gi]
          exact fr5' _ _ _ ((m46n _ _ (Or.inl gKU)).trans q7) (KU_sub gKU)
        · have hid' : id < ng := by omega
          have kpN : ((s.new i cb ng).keep ng).kp id = (s.new i cb ng).kp id := upd_ne _ _ e
          rw [kpN, kpn id hid'] at hw
          rw [Gn id hid']
          have hk2 := KM_KU ah.g hs hid'
          exact fr5' _ _ _ ((m46n _ _ (Or.inl hk2)).trans (r03 id hid' hw)) (KU_sub hk2)
  · -- ranked
    have nag : ¬ arrB hu gb := fun ha => by
      have := ah.karr _ ha
      rw [hk] at this
      rcases hkg with ⟨rfl, _, _, _⟩ | ⟨rfl, _⟩ <;> simp at this
    have oksub : ∀ b o, RZ (KM (Mem1 (MemU s ag ng) gb go)) hu b o → RZ (KU kd) hu b o := by
      rintro b o (h | h)
      · exact Or.inl (hKU b o h)
      · exact Or.inr h
    have okA : ∀ id, id < ng + 1 → AgeOkM (RZ (KM (Mem1 (MemU s ag ng) gb go)) hu) M3 (upd ag ng (gb, go) id).1 (upd ag ng (gb, go) id).2 := fun id hid => (ag3.ok hs' ah.karr hid).sub oksub
    have rkq : RkZ (w3.drewN q) M3 (KM (Mem1 (MemU s ag ng) gb go)) (MemU s ag ng) s.P 4 hu nu 86 := rk3.drewN q
    refine (age_update_new M3 (w3.drewN q) gb go st3.agr rkq (by omega) q7 ⟨gb, go, Or.inr ⟨rfl, rfl⟩, rfl, rfl⟩ nag hgP gmem (fun xb xo hx => ?_) ?_).mono fun e w' ⟨he, M5, hu', st5, rk5, fz, gr⟩ => ⟨he, M5, hu', hr, (st3.drewN q).trans st5, ?_, ?_, Or.inr ⟨hb, ?_, ?_⟩⟩
    · obtain ⟨id, hid, _, hx2⟩ := hx
      have := okA id (by omega)
      rw [Gn id hid, hx2] at this
      exact this
    · have := okA ng (by omega)
      rw [Gi] at this
      exact this
    all_goals
      have f5 : ∀ b o v, M3 b o = some v → ¬ KU kd b o → ¬ arrB hu b → ¬ (b = s.P ∧ o = 4) → M5 b o = some v := fun b o v hv h1 h2 h3 => (fz b o (st3.agr.lt hv) (fun hK => h1 (hKU b o hK)) h2 h3).trans hv
      have nKP : ∀ o, ¬ KU kd s.P o := fun o hK => by rcases hK with ⟨h, _⟩ | ⟨h, _⟩ <;> rw [kP] at h <;> simp at h
      have naP : ¬ arrB hu s.P := fun ha => by
        have := ah.karr _ ha
        rw [kP] at this
        simp at this
      have pg : ∀ o v, o ≠ 4 → M3 s.P o = some v → M5 s.P o = some v := fun o v ho hv => f5 _ _ _ hv (nKP o) naP (by omega)
    · exact pg 0 _ (by omega) (pf 0 _ (by omega) p0)
    · intro b o v hv h8
      refine f5 b o v (fr3 b o v hv (nT b o (Or.inr (Or.inr (Or.inr (Or.inr h8)))))) ?_ ?_ ?_
      · rintro (⟨h, _⟩ | ⟨h, _⟩) <;> omega
      · intro ha
        rw [ah.karr b ha] at h8
        simp at h8
      · rintro ⟨rfl, _⟩
        rw [kP] at h8
        simp at h8
    · refine ws3.keep hs' (fun b o v hv ht => f5 b o v hv ?_ ?_ ?_) (fun k n t h => st5.shape k n t h) (fun mb hm hmp => hmp.step (W := w3) st3.agr (((Stp.refl st3.agr).drewN q).trans st5 |>.sx (fun _ => False)) (fun h => h))
      · exact fun hK => TA_not_TW (KU_sub hK) ht
      · exact fun ha => TA_not_TW (by rw [ah.karr b ha]; exact Or.inr (Or.inr (Or.inr (Or.inr rfl)))) ht
      · rintro ⟨rfl, rfl⟩
        exact TA_not_TW (by rw [kP]; exact Or.inl ⟨rfl, by omega⟩) ht
    · have karr' : ∀ b, arrB hu' b → kd b = (6, 0) := fun b hb' => by
        rcases gr with h | ⟨A, cap, h, hA'⟩
        · rw [h] at hb'
          exact ah.karr b hb'
        · rw [h] at hb'
          have e1 := arrB_some.1 hb'
          have e2 : (w3.drewN q).heap.size = w3.heap.size := rfl
          exact knew b (by omega)
      have hmiff : ∀ xb xo, Mem1 (MemU s ag ng) gb go xb xo ↔ MemU (s.new i cb ng) (upd ag ng (gb, go)) (ng + 1) xb xo := by
        intro xb xo
        constructor
        · rintro (⟨id, hid, h1, h2⟩ | ⟨rfl, rfl⟩)
          · exact ⟨id, by omega, by rw [kpn id hid]; exact h1, by rw [Gn id hid]; exact h2⟩
          · exact ⟨ng, by omega, kpi, Gi⟩
        · rintro ⟨id, hid, h1, h2⟩
          by_cases e : id = ng
          · subst e
            rw [Gi] at h2
            cases h2
            exact Or.inr ⟨rfl, rfl⟩
          · rw [kpn id (by omega)] at h1
            rw [Gn id (by omega)] at h2
            exact Or.inl ⟨id, by omega, h1, h2⟩
      refine ⟨ag3.keep hs' fun b o v hv hc => f5 b o v hv ?_ ?_ ?_, pg 1 _ (by omega) (pf 1 _ (by omega) ah.p1), pg 2 _ (by omega) (pf 2 _ (by omega) ah.p2), pg 3 _ (by omega) (pf 3 _ (by omega) ah.p3), mp3.step (W := w3) st3.agr (((Stp.refl st3.agr).drewN q).trans st5 |>.sx (fun _ => False)) (fun h => h), ?_, (rk5.keep (fun _ _ _ h => h) hmiff fun _ _ _ hv _ => hv).chK (fun gb' go' hm => ⟨gb', go', hm, rfl, rfl⟩) ?_, karr', fun id hid hw => ?_⟩
      · rintro (⟨a', c'⟩ | ⟨a', c'⟩) <;> rcases hc with ⟨a, c, d⟩ | a | ⟨a, c⟩ <;> omega
      · intro ha
        rw [ah.karr b ha] at hc
        rcases hc with ⟨a, c, d⟩ | a | ⟨a, c⟩ <;> simp at a
      · rintro ⟨rfl, _⟩
        rw [kP] at hc
        rcases hc with ⟨a, c, d⟩ | a | ⟨a, c⟩ <;> simp at a
      · have := pg 5 _ (by omega) q5
        have e1 : ((i + 1 : Nat) : Int) = (i : Int) + 1 := by omega
        rw [e1]
        exact this
      · rintro ⟨xb, xo, hx, e1, e2⟩
        exact nKP 4 (hKU _ _ ⟨xb, xo, (hmiff xb xo).2 hx, e1, e2⟩)
      · by_cases e : id = ng
        · subst e
          rw [kpi] at hw
          cases hw
        · have hid' : id < ng := by omega
          rw [kpn id hid'] at hw
          rw [Gn id hid']
          have hk2 := KM_KU ah.g hs hid'
          refine (fz _ _ (st3.agr.lt (r03 id hid' hw)) ?_ ?_ ?_).trans (r03 id hid' hw)
          · rintro ⟨xb, xo, hx, e1, e2⟩
            have heq : ag id = (xb, xo) := by rw [← e1, show xo = (ag id).2 by omega]
            rcases hx with ⟨d, hd, hw2, he2⟩ | ⟨rfl, rfl⟩
            · have := ah.g.inj hs hid' hd (heq.trans he2.symm)
              subst this
              rw [hw] at hw2
              cases hw2
            · exact hgne id hid' heq
          · intro ha
            have := ah.karr _ ha
            rcases hk2 with ⟨h, _⟩ | ⟨h, _⟩ <;> rw [this] at h <;> simp at h
          · rintro ⟨a, _⟩
            rcases hk2 with ⟨h, _⟩ | ⟨h, _⟩ <;> rw [a, kP] at h <;> simp at h
end Go.Proofs.Ybulkdcoi
