/-
  A RANKING, IN THE PURE MEMORY: a row of groups, each group's rank its place in the row and one.
-/
import Derived.Test.YbulkdcoiH3
namespace Go.Proofs.Ybulkdcoi
open Go.RowKit
set_option linter.unusedVariables false

/-- A fact that the walk's simp shall not see. -/
structure Hd (p : Prop) : Prop where
  out : p
theorem Stp.drewN {W w1 : World} {M M1 : Cel} (h : Stp W M w1 M1) (q : Nat) : Stp W M (w1.drewN q) M1 := ⟨h.agr, h.os, h.tape, h.output, h.size, h.block, h.fresh, h.shape⟩

/-- A cell that the ranking's steps do not touch. -/
def fx (M : Cel) (R : Nat → Nat → Prop) (b o : Nat) (v : Value) : Prop := M b o = some v ∧ ¬ R b o
/-- What lies outside R lies as it lay. -/
def Kp (M M' : Cel) (R : Nat → Nat → Prop) : Prop := ∀ b o, ¬ R b o → M' b o = M b o

theorem Kp.refl (M : Cel) (R : Nat → Nat → Prop) : Kp M M R := fun _ _ _ => rfl
theorem Kp.trans {M M1 M2 : Cel} {R : Nat → Nat → Prop} (h : Kp M M1 R) (k : Kp M1 M2 R) : Kp M M2 R := fun b o hr => (k b o hr).trans (h b o hr)
theorem fx.keep {M M' : Cel} {R : Nat → Nat → Prop} {b o : Nat} {v : Value} (h : fx M R b o v) (k : Kp M M' R) : fx M' R b o v := ⟨(k b o h.2).trans h.1, h.2⟩

def WayOkM (R : Nat → Nat → Prop) (M : Cel) (gb go : Nat) : Prop := ∃ (s n o : Int) (eb cb co : Nat), 0 < n ∧ fx M R gb (go + 1) (.int .i64 s) ∧ fx M R gb (go + 2) (ptr eb 0) ∧ fx M R gb (go + 2 + 4) (.int .i64 n) ∧ fx M R eb 3 (.iface 139 (ptr cb co)) ∧ fx M R cb (co + 3) (.int .u64 o)
def AgeOkM (R : Nat → Nat → Prop) (M : Cel) (gb go : Nat) : Prop := ∃ (n o : Int) (eb cb co : Nat), 0 < n ∧ fx M R gb (go + 1) (ptr eb 0) ∧ fx M R gb (go + 1 + 4) (.int .i64 n) ∧ fx M R eb 3 (.iface 131 (ptr cb co)) ∧ fx M R cb (co + 3) (.int .u64 o)
theorem WayOkM.world {R : Nat → Nat → Prop} {M : Cel} {gb go : Nat} {W : World} (h : WayOkM R M gb go) (hA : Agr W M) : WayOk W gb go := by
  obtain ⟨s, n, o, eb, cb, co, hn, h1, h2, h3, h4, h5⟩ := h
  exact ⟨s, n, o, eb, cb, co, hn, (hA _ _ _ h1.1).1, (hA _ _ _ h2.1).1, (hA _ _ _ h3.1).1, (hA _ _ _ h4.1).1, (hA _ _ _ h5.1).1⟩
theorem AgeOkM.world {R : Nat → Nat → Prop} {M : Cel} {gb go : Nat} {W : World} (h : AgeOkM R M gb go) (hA : Agr W M) : AgeOk W gb go := by
  obtain ⟨n, o, eb, cb, co, hn, h2, h3, h4, h5⟩ := h
  exact ⟨n, o, eb, cb, co, hn, (hA _ _ _ h2.1).1, (hA _ _ _ h3.1).1, (hA _ _ _ h4.1).1, (hA _ _ _ h5.1).1⟩
theorem WayOkM.keep {R : Nat → Nat → Prop} {M M' : Cel} {gb go : Nat} (h : WayOkM R M gb go) (k : Kp M M' R) : WayOkM R M' gb go := by
  obtain ⟨s, n, o, eb, cb, co, hn, h1, h2, h3, h4, h5⟩ := h
  exact ⟨s, n, o, eb, cb, co, hn, h1.keep k, h2.keep k, h3.keep k, h4.keep k, h5.keep k⟩
theorem AgeOkM.keep {R : Nat → Nat → Prop} {M M' : Cel} {gb go : Nat} (h : AgeOkM R M gb go) (k : Kp M M' R) : AgeOkM R M' gb go := by
  obtain ⟨n, o, eb, cb, co, hn, h2, h3, h4, h5⟩ := h
  exact ⟨n, o, eb, cb, co, hn, h2.keep k, h3.keep k, h4.keep k, h5.keep k⟩

/-- THE RANKING at RB, ro: its row A, n groups of cap; Mem: the groups that are in it. -/
structure Rk (M : Cel) (R : Nat → Nat → Prop) (Mem : Nat → Nat → Prop) (RB ro A cap n : Nat) : Prop where
  hdr : M RB ro = some (.slice (some ⟨A, 0, none⟩) n cap)
  le : n ≤ cap
  row : ∀ k, k < cap → ∃ v, M A k = some v
  ent : ∀ k, k < n → ∃ gb go, Mem gb go ∧ M A k = some (ptr gb go) ∧ M gb (go + 7) = some (.int .i64 ((k : Int) + 1))
  mem : ∀ gb go, Mem gb go → ∃ k, k < n ∧ M A k = some (ptr gb go)
  far : ∀ gb go, Mem gb go → gb ≠ A ∧ gb ≠ RB ∧ R gb (go + 7)
  rowR : ∀ k, R A k
  hdrR : ¬ R RB ro
  RA : RB ≠ A

theorem ptr_inj {a b c d : Nat} (h : (some (ptr a b) : Option Value) = some (ptr c d)) : a = c ∧ b = d := by
  simp at h
  exact h
theorem rank_inj {a b : Nat} (h : (some (Value.int .i64 ((a : Int) + 1)) : Option Value) = some (.int .i64 ((b : Int) + 1))) : a = b := by
  simp at h
  omega

def swM (M : Cel) (A i j gb go hb ho : Nat) : Cel := up (up (up (up M A i (ptr hb ho)) A j (ptr gb go)) hb (ho + 7) (.int .i64 ((i : Int) + 1))) gb (go + 7) (.int .i64 ((j : Int) + 1))

theorem Rk.swap {M : Cel} {R : Nat → Nat → Prop} {Mem : Nat → Nat → Prop} {RB ro A cap n : Nat} (h : Rk M R Mem RB ro A cap n) {i j gb go hb ho : Nat} (hi : i < n) (hj : j < n) (hij : i ≠ j) (g1 : Mem gb go) (g2 : Mem hb ho) (e1 : M A i = some (ptr gb go)) (e2 : M A j = some (ptr hb ho)) (d : gb ≠ hb ∨ go ≠ ho) :
    Rk (swM M A i j gb go hb ho) R Mem RB ro A cap n ∧ Kp M (swM M A i j gb go hb ho) R ∧ swM M A i j gb go hb ho A i = some (ptr hb ho) ∧ swM M A i j gb go hb ho A j = some (ptr gb go) ∧ (∀ k, k ≠ i → k ≠ j → swM M A i j gb go hb ho A k = M A k) := by
  obtain ⟨gA, gR, gr⟩ := h.far _ _ g1
  obtain ⟨hA, hR, hr⟩ := h.far _ _ g2
  have key : ∀ k, swM M A i j gb go hb ho A k = if k = j then some (ptr gb go) else if k = i then some (ptr hb ho) else M A k := by
    intro k
    unfold swM
    rw [up_other _ _ (Or.inl (fun e => gA e.symm)), up_other _ _ (Or.inl (fun e => hA e.symm))]
    unfold up
    simp
  have rank : ∀ xb xo, xb ≠ A → swM M A i j gb go hb ho xb (xo + 7) = if xb = gb ∧ xo = go then some (.int .i64 ((j : Int) + 1)) else if xb = hb ∧ xo = ho then some (.int .i64 ((i : Int) + 1)) else M xb (xo + 7) := by
    intro xb xo hx
    unfold swM up
    simp [hx]
  have kp : Kp M (swM M A i j gb go hb ho) R := by
    intro b o hn
    unfold swM
    rw [up_other _ _, up_other _ _, up_other _ _, up_other _ _]
    all_goals
      by_cases hb1 : b = A
      · subst hb1
        exact absurd (h.rowR o) hn
      · first
          | exact Or.inl hb1
          | (by_cases hb2 : b = hb
             · right
               intro ho2
               subst hb2 ho2
               exact hn hr
             · exact Or.inl hb2)
          | (by_cases hb2 : b = gb
             · right
               intro ho2
               subst hb2 ho2
               exact hn gr
             · exact Or.inl hb2)
  refine ⟨⟨(kp _ _ h.hdrR).trans h.hdr, h.le, fun k hk => ?_, fun k hk => ?_, fun xb xo hx => ?_, h.far, h.rowR, h.hdrR, h.RA⟩, kp, ?_, ?_, fun k h1 h2 => ?_⟩
  · rw [key]
    split
    · exact ⟨_, rfl⟩
    · split
      · exact ⟨_, rfl⟩
      · exact h.row k hk
  · rw [key]
    by_cases k1 : k = j
    · subst k1
      refine ⟨gb, go, g1, by simp, ?_⟩
      rw [rank _ _ gA]
      simp
    · by_cases k2 : k = i
      · subst k2
        refine ⟨hb, ho, g2, by simp [k1], ?_⟩
        rw [rank _ _ hA]
        have : ¬ (hb = gb ∧ ho = go) := by
          rintro ⟨rfl, rfl⟩
          rcases d with d | d <;> exact d rfl
        simp [this]
      · obtain ⟨xb, xo, hx, hm, hk7⟩ := h.ent k hk
        refine ⟨xb, xo, hx, by simp [k1, k2, hm], ?_⟩
        rw [rank _ _ (h.far _ _ hx).1]
        have n1 : ¬ (xb = gb ∧ xo = go) := by
          rintro ⟨rfl, rfl⟩
          obtain ⟨yb, yo, hy, hm2, hk72⟩ := h.ent i hi
          rw [e1] at hm2
          obtain ⟨rfl, rfl⟩ := ptr_inj hm2
          rw [hk7] at hk72
          exact k2 (rank_inj hk72)
        have n2 : ¬ (xb = hb ∧ xo = ho) := by
          rintro ⟨rfl, rfl⟩
          obtain ⟨yb, yo, hy, hm2, hk72⟩ := h.ent j hj
          rw [e2] at hm2
          obtain ⟨rfl, rfl⟩ := ptr_inj hm2
          rw [hk7] at hk72
          exact k1 (rank_inj hk72)
        simp [n1, n2, hk7]
  · obtain ⟨k, hk, hm⟩ := h.mem _ _ hx
    by_cases k1 : k = i
    · subst k1
      rw [e1] at hm
      obtain ⟨rfl, rfl⟩ := ptr_inj hm
      exact ⟨j, hj, by rw [key]; simp⟩
    · by_cases k2 : k = j
      · subst k2
        rw [e2] at hm
        obtain ⟨rfl, rfl⟩ := ptr_inj hm
        exact ⟨i, hi, by rw [key]; simp [hij]⟩
      · exact ⟨k, hk, by rw [key]; simp [k1, k2, hm]⟩
  · rw [key]
    simp [hij]
  · rw [key]
    simp
  · rw [key]
    simp [h1, h2]

/-- Two places of the row hold two groups. -/
theorem Rk.apart {M : Cel} {R : Nat → Nat → Prop} {Mem : Nat → Nat → Prop} {RB ro A cap n : Nat} (h : Rk M R Mem RB ro A cap n) {i j gb go hb ho : Nat} (hi : i < n) (hj : j < n) (hij : i ≠ j) (e1 : M A i = some (ptr gb go)) (e2 : M A j = some (ptr hb ho)) : gb ≠ hb ∨ go ≠ ho := by
  by_cases e : gb = hb ∧ go = ho
  · obtain ⟨rfl, rfl⟩ := e
    obtain ⟨xb, xo, _, hm, hk⟩ := h.ent i hi
    rw [e1] at hm
    obtain ⟨rfl, rfl⟩ := ptr_inj hm
    obtain ⟨yb, yo, _, hm2, hk2⟩ := h.ent j hj
    rw [e2] at hm2
    obtain ⟨rfl, rfl⟩ := ptr_inj hm2
    rw [hk] at hk2
    exact absurd (rank_inj hk2) hij
  · by_cases e1 : gb = hb
    · exact Or.inr fun e2 => e ⟨e1, e2⟩
    · exact Or.inl e1

/-- The ranking on its way through a heap's step: the first m groups may be compared, the others stay. -/
structure Hp (Ok : Cel → Nat → Nat → Prop) (M M' : Cel) (R : Nat → Nat → Prop) (Mem : Nat → Nat → Prop) (RB ro A cap n m : Nat) : Prop where
  rk : Rk M' R Mem RB ro A cap n
  kp : Kp M M' R
  stay : ∀ k, m ≤ k → M' A k = M A k
  ok : ∀ k gb go, k < m → M' A k = some (ptr gb go) → Ok M' gb go
end Go.Proofs.Ybulkdcoi
