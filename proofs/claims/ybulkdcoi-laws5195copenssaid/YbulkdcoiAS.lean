/-
  THE AGE SIDE, WHOLE; the tail of 'open' on it.
-/
import Derived.Test.YbulkdcoiG
import Derived.Test.YbulkdcoiOp1
namespace Go.Proofs.Ybulkdcoi
open Go.RowKit
set_option linter.unusedVariables false

structure AS (kd : Nat → Nat × Nat) (s : Sh) (E : Nat → Nat) (ag : Nat → Nat × Nat) (nm : Nat → ByteArray) (i ng m1 nn : Nat) (f1 : List UInt8 → Option Nat) (hu : Option (Nat × Nat)) (nu kc K : Nat) (W : World) (M : Cel) : Prop where
  g : AG kd s E ag nm i ng M
  p1 : M s.P 1 = some (.int .i64 K)
  p2 : M s.P 2 = some (.int .i64 kc)
  p3 : M s.P 3 = some (.map (some m1))
  mp : Mp W m1 nn f1
  p5 : M s.P 5 = some (.int .u64 i)
  rk : RkZ W M (KM (MemU s ag ng)) (MemU s ag ng) s.P 4 hu nu 86
  karr : ∀ b, arrB hu b → kd b = (6, 0)
  r0 : ∀ id, id < ng → s.kp id = true → M (ag id).1 ((ag id).2 + 7) = some (.int .i64 0)

def TAc (k : Nat × Nat) (o : Nat) : Prop := (k = (0, 0) ∧ o ≤ 5) ∨ (k.1 = 1 ∧ 8 ≤ o ∧ o ≤ 19) ∨ k.1 = 2 ∨ k.1 = 4 ∨ k.1 = 6
theorem KU_sub {kd : Nat → Nat × Nat} {b o : Nat} (h : KU kd b o) : TAc (kd b) o := by
  rcases h with ⟨h, rfl⟩ | ⟨h, rfl⟩
  · exact Or.inr (Or.inl ⟨h, by omega, by omega⟩)
  · exact Or.inr (Or.inr (Or.inr (Or.inl h)))
theorem TA_not_TW {k : Nat × Nat} {o : Nat} (h : TAc k o) : ¬ TWc k o := by
  rintro h'
  rcases h with ⟨rfl, h1⟩ | ⟨h1, h2, h3⟩ | h1 | h1 | h1 <;> rcases h' with ⟨a, a2⟩ | ⟨a, a2, a3⟩ | a | a | a
  · omega
  · simp at a
  · simp at a
  · simp at a
  · simp at a
  · rw [a] at h1; simp at h1
  all_goals first | omega | (rw [a] at h1; simp at h1)

theorem AS.keep {kd : Nat → Nat × Nat} {s : Sh} {E : Nat → Nat} {ag : Nat → Nat × Nat} {nm : Nat → ByteArray} {i ng m1 nn : Nat} {f1 : List UInt8 → Option Nat} {hu : Option (Nat × Nat)} {nu kc K : Nat} {W w' : World} {M M' : Cel} (h : AS kd s E ag nm i ng m1 nn f1 hu nu kc K W M) (hs : ShOk kd s i ng)
    (fr : ∀ b o v, M b o = some v → TAc (kd b) o → ¬ (kd b = (0, 0) ∧ o = 0) → M' b o = some v) (sh : ∀ k n t, Shp W k n t → Shp w' k n t) {nn' : Nat} {f1' : List UInt8 → Option Nat} (hm : Mp w' m1 nn' f1') : AS kd s E ag nm i ng m1 nn' f1' hu nu kc K w' M' := by
  have kP := hs.kP
  have ac : ∀ k o, Acell k o → TAc k o ∧ ¬ (k = (0, 0) ∧ o = 0) := by
    rintro k o (⟨a, c, d⟩ | a | ⟨a, c⟩)
    · exact ⟨Or.inr (Or.inl ⟨a, c, by omega⟩), by rintro ⟨rfl, _⟩; simp at a⟩
    · exact ⟨Or.inr (Or.inr (Or.inl a)), by rintro ⟨rfl, _⟩; simp at a⟩
    · exact ⟨Or.inr (Or.inr (Or.inr (Or.inl a))), by rintro ⟨rfl, _⟩; simp at a⟩
  have pc : ∀ o v, 1 ≤ o → o ≤ 5 → M s.P o = some v → M' s.P o = some v := fun o v h1 h2 hv => fr _ _ _ hv (by
    rw [kP]
    exact Or.inl ⟨rfl, h2⟩) (by omega)
  have kn : ∀ b o, KU kd b o → ¬ (kd b = (0, 0) ∧ o = 0) := by
    rintro b o (⟨a, c⟩ | ⟨a, c⟩) ⟨e, _⟩ <;> rw [e] at a <;> simp at a
  have kr : ∀ b o, KM (MemU s ag ng) b o → KU kd b o := by
    rintro b o ⟨xb, xo, ⟨id, hid, _, he⟩, rfl, rfl⟩
    have := KM_KU h.g hs hid
    rw [he] at this
    exact this
  refine ⟨h.g.keep hs fun b o v hv hw => fr b o v hv (ac _ _ hw).1 (ac _ _ hw).2, pc 1 _ (by omega) (by omega) h.p1, pc 2 _ (by omega) (by omega) h.p2, pc 3 _ (by omega) (by omega) h.p3, hm, pc 5 _ (by omega) (by omega) h.p5, h.rk.keep sh (fun _ _ => Iff.rfl) fun b o v hv hin => ?_, h.karr, fun id hid hw => fr _ _ _ (h.r0 id hid hw) (KU_sub (KM_KU h.g hs hid)) (kn _ _ (KM_KU h.g hs hid))⟩
  rcases hin with hin | hin | ⟨rfl, rfl⟩
  · exact fr b o v hv (KU_sub (kr b o hin)) (kn b o (kr b o hin))
  · refine fr b o v hv ?_ ?_
    · rw [h.karr b hin]
      exact Or.inr (Or.inr (Or.inr (Or.inr rfl)))
    · rw [h.karr b hin]
      simp
  · exact pc 4 v (by omega) (by omega) hv

theorem AS.kdx {kd kd' : Nat → Nat × Nat} {s : Sh} {E : Nat → Nat} {ag : Nat → Nat × Nat} {nm : Nat → ByteArray} {i ng m1 nn : Nat} {f1 : List UInt8 → Option Nat} {hu : Option (Nat × Nat)} {nu kc K : Nat} {W : World} {M : Cel} (h : AS kd s E ag nm i ng m1 nn f1 hu nu kc K W M) (hA : Agr W M) (hk : ∀ b, b < W.heap.size → kd' b = kd b) : AS kd' s E ag nm i ng m1 nn f1 hu nu kc K W M :=
  ⟨h.g.kdx fun b o v hv => hk b (hA.lt hv), h.p1, h.p2, h.p3, h.mp, h.p5, h.rk, fun b hb => (hk b (h.rk.arr_lt hA hb)).trans (h.karr b hb), h.r0⟩

theorem age_tail (kd : Nat → Nat × Nat) (W : World) (M : Cel) (P cb gb go fb ab n i la : Nat) (gk : Nat × Nat) (v8 v9 v10 v11 : Value) (hA : Agr W M)
    (kP : kd P = (0, 0)) (kc : kd cb = (1, i)) (kg : (gk = (1, i) ∧ gb = cb ∧ go = 12) ∨ ∃ id, gk = (4, id) ∧ go = 0) (hk : kd gb = gk) (kab : (0 < n ∧ kd ab = (2, la)) ∨ W.heap.size ≤ ab) (hn : n ≤ 1000)
    (c8 : M cb 8 = some v8) (c9 : M cb 9 = some v9) (c10 : M cb 10 = some v10) (c11 : M cb 11 = some v11) (p5 : M P 5 = some (.int .u64 i)) (hl : Lst M gb (go + 1) fb ab n) :
    Calls Yba.prog 21 #[ptr gb (go + 1), .iface 131 (ptr cb 8)] ((((W.setCell ⟨cb, 8, none⟩ (ptr cb 0)).setCell ⟨cb, 9, none⟩ (ptr gb go)).setCell ⟨cb, 11, none⟩ (.int .u64 i)).setCell ⟨P, 5, none⟩ (.int .u64 ((i : Int) + 1))) fun e w2 =>
      e = .returned (ptr W.heap.size 0) ∧ w2.cell? ⟨cb, 10, none⟩ = some v10 ∧ w2.frozen? ⟨cb, 10, none⟩ = false ∧
      ∃ M', Stp W M (w2.setCell ⟨cb, 10, none⟩ (ptr W.heap.size 0)) M' ∧ AAdded M' cb W.heap.size gb go n fb i ∧ M' P 5 = some (.int .u64 ((i : Int) + 1)) ∧ (∀ b o v, M b o = some v → ¬ Ta gk go la i (kd b) o → M' b o = some v) := by
  have hcP : cb ≠ P := fun e => by rw [e, kP] at kc; simp at kc
  have hgP : gb ≠ P := fun e => by rw [e, kP] at hk; rcases kg with ⟨h, _, _⟩ | ⟨d, h, _⟩ <;> rw [← hk] at h <;> simp at h
  have hgc : gb = cb → go = 12 := fun e => by
    rcases kg with ⟨_, _, h⟩ | ⟨d, h, _⟩
    · exact h
    · rw [e, kc, h] at hk; simp at hk
  have bc := hA.lt c8
  have bP := hA.lt p5
  obtain ⟨M5, hM5⟩ : ∃ M5, M5 = up (up (up (up M cb 8 (ptr cb 0)) cb 9 (ptr gb go)) cb 11 (.int .u64 i)) P 5 (.int .u64 ((i : Int) + 1)) := ⟨_, rfl⟩
  have s5 : Stp W M ((((W.setCell ⟨cb, 8, none⟩ (ptr cb 0)).setCell ⟨cb, 9, none⟩ (ptr gb go)).setCell ⟨cb, 11, none⟩ (.int .u64 i)).setCell ⟨P, 5, none⟩ (.int .u64 ((i : Int) + 1))) M5 := by
    rw [hM5]
    have a1 := (Stp.refl hA).set c8 (ptr cb 0)
    have a2 := a1.set (b := cb) (o := 9) (u := v9) (by rw [up_other _ _ (Or.inr (by decide))]; exact c9) (ptr gb go)
    have a3 := a2.set (b := cb) (o := 11) (u := v11) (by rw [up_other _ _ (Or.inr (by decide)), up_other _ _ (Or.inr (by decide))]; exact c11) (.int .u64 i)
    exact a3.set (b := P) (o := 5) (u := .int .u64 i) (by rw [up_other _ _ (Or.inl (Ne.symm hcP)), up_other _ _ (Or.inl (Ne.symm hcP)), up_other _ _ (Or.inl (Ne.symm hcP))]; exact p5) (.int .u64 ((i : Int) + 1))
  have f5 : ∀ b o, ¬ (b = cb ∧ (o = 8 ∨ o = 9 ∨ o = 11)) → ¬ (b = P ∧ o = 5) → M5 b o = M b o := fun b o n1 n3 => by
    rw [hM5, up_other _ _ (by omega), up_other _ _ (by omega), up_other _ _ (by omega), up_other _ _ (by omega)]
  have m8 : M5 cb 8 = some (ptr cb 0) := by rw [hM5, up_other _ _ (Or.inl hcP), up_other _ _ (Or.inr (by decide)), up_other _ _ (Or.inr (by decide)), up_same]
  have m9 : M5 cb 9 = some (ptr gb go) := by rw [hM5, up_other _ _ (Or.inl hcP), up_other _ _ (Or.inr (by decide)), up_same]
  have m11 : M5 cb 11 = some (.int .u64 i) := by rw [hM5, up_other _ _ (Or.inl hcP), up_same]
  have mP5 : M5 P 5 = some (.int .u64 ((i : Int) + 1)) := by rw [hM5, up_same]
  have g5 : ∀ o, 1 ≤ o → o ≤ 6 → M5 gb (go + o) = M gb (go + o) := fun o h1 ho => f5 _ _ (by
    rintro ⟨e, h⟩
    have := hgc e
    omega) (fun h => hgP h.1)
  have sz5 : ((((W.setCell ⟨cb, 8, none⟩ (ptr cb 0)).setCell ⟨cb, 9, none⟩ (ptr gb go)).setCell ⟨cb, 11, none⟩ (.int .u64 i)).setCell ⟨P, 5, none⟩ (.int .u64 ((i : Int) + 1))).heap.size = W.heap.size := by simp
  have hl5 : Lst M5 gb (go + 1) fb ab n := by
    rcases hl with ⟨h0, h1, ⟨v1, h2⟩, ⟨v4, h3⟩⟩ | ⟨h0, h1, h2, h3⟩ | ⟨h0, hd, h1, h2, ha, h3⟩
    · exact Or.inl ⟨h0, (g5 1 (by omega) (by omega)).trans h1, ⟨v1, (g5 2 (by omega) (by omega)).trans h2⟩, ⟨v4, (g5 5 (by omega) (by omega)).trans h3⟩⟩
    · exact Or.inr (Or.inl ⟨h0, (g5 1 (by omega) (by omega)).trans h1, (g5 2 (by omega) (by omega)).trans h2, (g5 5 (by omega) (by omega)).trans h3⟩)
    · exact Or.inr (Or.inr ⟨h0, hd, (g5 1 (by omega) (by omega)).trans h1, (g5 2 (by omega) (by omega)).trans h2, (f5 ab 0 (by omega) (by omega)).trans ha, (g5 5 (by omega) (by omega)).trans h3⟩)
  refine (push_any gb (go + 1) fb ab n 131 (ptr cb 8) _ M5 s5.agr (by omega) hl5).mono fun e w1 ⟨he, M6, s6, pd⟩ => ?_
  rw [sz5] at he pd
  have H0 : ∀ b, b < W.heap.size → b ≠ W.heap.size := fun b hb => Nat.ne_of_lt hb
  have c6 : ∀ o, o ≤ 11 → 0 < o → M6 cb o = M5 cb o := fun o ho h1 => pd.frame cb o bc (by
    rintro ⟨e, h⟩
    have := hgc e.symm
    omega) (by omega)
  have m10 : M6 cb 10 = some v10 := (c6 10 (by omega) (by omega)).trans ((f5 cb 10 (by omega) (fun h => hcP h.1)).trans c10)
  have t6 := s5.trans s6
  have t7 := t6.set m10 (ptr W.heap.size 0)
  obtain ⟨M7, hM7⟩ : ∃ M7, M7 = up M6 cb 10 (ptr W.heap.size 0) := ⟨_, rfl⟩
  rw [← hM7] at t7
  have o7 : ∀ b o, (b ≠ cb ∨ o ≠ 10) → M7 b o = M6 b o := fun b o h => by rw [hM7, up_other _ _ h]
  have gb10 : ∀ o, (gb ≠ cb ∨ go + o ≠ 10) := fun o => by
    by_cases e : gb = cb
    · have := hgc e
      omega
    · exact Or.inl e
  refine ⟨he, (t6.agr _ _ _ m10).1, (t6.agr _ _ _ m10).2, M7, t7, ⟨?_, ?_, ?_, ?_, ?_, ?_, ?_, ?_, ?_⟩, ?_, fun b o v hv hT => ?_⟩
  · rw [o7 _ _ (Or.inr (by decide)), c6 8 (by omega) (by omega)]; exact m8
  · rw [o7 _ _ (Or.inr (by decide)), c6 9 (by omega) (by omega)]; exact m9
  · rw [hM7, up_same]
  · rw [o7 _ _ (Or.inr (by decide)), c6 11 (by omega) (by omega)]; exact m11
  · rw [o7 _ _ (Or.inl (Ne.symm (H0 _ bc)))]; exact pd.e0
  · rw [o7 _ _ (Or.inl (Ne.symm (H0 _ bc)))]; exact pd.e3
  · rw [o7 _ _ (gb10 1)]; exact pd.next
  · rw [o7 _ _ (gb10 2)]; exact pd.prev
  · rw [o7 _ _ (gb10 5)]; exact pd.len
  · rw [o7 _ _ (Or.inl (Ne.symm hcP)), pd.frame P 5 bP (fun h => hgP h.1.symm) (by omega)]
    exact mP5
  · have hb := hA.lt hv
    have nc : ¬ (b = cb ∧ 8 ≤ o ∧ o ≤ 11) := fun h => hT (Or.inl ⟨by rw [h.1]; exact kc, h.2⟩)
    have ngb : ¬ (b = gb ∧ (o = go + 1 ∨ o = go + 2 ∨ o = go + 5)) := fun h => hT (Or.inr (Or.inl ⟨by rw [h.1]; exact hk, h.2⟩))
    have nP : ¬ (b = P ∧ o = 5) := fun h => hT (Or.inr (Or.inr (Or.inl ⟨by rw [h.1]; exact kP, h.2⟩)))
    have nab : ¬ (b = ab ∧ o = 0) := fun h => by
      rcases kab with ⟨_, k⟩ | k
      · exact hT (Or.inr (Or.inr (Or.inr ⟨by rw [h.1]; exact k, h.2⟩)))
      · omega
    rw [o7 b o (by omega), pd.frame b o hb (by omega) nab, f5 b o (by omega) nP]
    exact hv

theorem Ta_sub {gk : Nat × Nat} {go la i : Nat} {k : Nat × Nat} {o : Nat} (hg : (gk = (1, i) ∧ go = 12) ∨ gk.1 = 4) (h : Ta gk go la i k o) : TAc k o := by
  rcases h with ⟨rfl, h1, h2⟩ | ⟨rfl, h⟩ | ⟨rfl, rfl⟩ | ⟨rfl, rfl⟩
  · exact Or.inr (Or.inl ⟨rfl, by omega, by omega⟩)
  · rcases hg with ⟨rfl, rfl⟩ | hg
    · exact Or.inr (Or.inl ⟨rfl, by omega, by omega⟩)
    · exact Or.inr (Or.inr (Or.inr (Or.inl hg)))
  · exact Or.inl ⟨rfl, by omega⟩
  · exact Or.inr (Or.inr (Or.inl rfl))

/-- A new connection's cells on the age side. -/
structure NewA (M : Cel) (cb : Nat) : Prop where
  c8 : M cb 8 = some (.pointer none)
  c9 : M cb 9 = some (.pointer none)
  c10 : M cb 10 = some (.pointer none)
  c11 : M cb 11 = some (.int .u64 0)
  c12 : M cb 12 = some (.string ⟨#[]⟩)
  c13 : M cb 13 = some (.pointer none)
  c14 : M cb 14 = some (.pointer none)
  c17 : M cb 17 = some (.int .i64 0)
  c18 : M cb 18 = some (.bool false)
  c19 : M cb 19 = some (.int .i64 0)
end Go.Proofs.Ybulkdcoi
