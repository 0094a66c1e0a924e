/-
  ONE ROUND OF THE LAW's FIRST LOOP, AS PURE AS CAN BE: the first connection of a group.
-/
import Derived.Test.YbulkdcoiLS
namespace Go.Proofs.Ybulkdcoi
open Go.RowKit
set_option linter.unusedVariables false

/-- The new connection, and its place in the row. -/
theorem ls_conn {w0 : World} {n K A7 A8 A9 : Nat} {h10 h11 h12 h13 : Option (Nat × Nat)} {g : Gst} {i : Nat} {W : World} {M : Cel} (h : LS w0 n K A7 A8 A9 h10 h11 h12 h13 g i W M) (hi : i < n) (st : ByteArray) :
    Stp W M ((W.alloc (.cells (connCells st) 116)).setCell ⟨A7, i, none⟩ (ptr W.heap.size 0)) (up (newB M W.heap.size (connCells st).toList) A7 i (ptr W.heap.size 0)) ∧
    (∀ b o v, M b o = some v → ¬ (b = A7 ∧ o = i) → up (newB M W.heap.size (connCells st).toList) A7 i (ptr W.heap.size 0) b o = some v) ∧
    (∀ o, up (newB M W.heap.size (connCells st).toList) A7 i (ptr W.heap.size 0) W.heap.size o = (connCells st).toList[o]?) ∧ A7 < W.heap.size := by
  have l7 : A7 < W.heap.size := h.fs.agr.lt (h.rw_.r7 i hi)
  have s1 := (Stp.refl h.fs.agr).new (connCells st) 116
  refine ⟨s1.set (b := A7) (o := i) (u := _) ((newB_other _ _ _ (by omega)).trans (h.rw_.r7 i hi)) _, fun b o v hv hne => ?_, fun o => ?_, l7⟩
  · have := h.fs.agr.lt hv
    rw [up_other _ _ (by omega), newB_other _ _ _ (by omega)]
    exact hv
  · rw [up_other _ _ (Or.inl (by omega)), newB_same]

def kdL (kd : Nat → Nat × Nat) (S i A10 A11 A12 : Nat) : Nat → Nat × Nat := fun b => if b < S then kd b else if b = S then (1, i) else if b = A10 then (8, 10) else if b = A11 then (8, 11) else if b = A12 then (8, 12) else (8, 13)

/-- What the first connection of a group leads to. -/
def LNew (w0 : World) (n K A7 A8 A9 : Nat) (h10 h11 h12 h13 : Option (Nat × Nat)) (g : Gst) (i : Nat) (w1 : World) (cb : Nat) (st : ByteArray) (k : Bool) : Prop :=
  ∃ A10 c10 v1 A11 c11 v2 A12 c12 v3 A13 c13 v4,
    (Builtin.append_ #[79, 79] 79 #[hdv h10 g.ng, .slice (some ⟨w1.heap.size, 0, none⟩) 1 1]).run Yba.prog (w1.alloc (.cells #[.string st] 9)) = .ok (.slice (some ⟨A10, 0, none⟩) (g.ng + 1) c10) v1 ∧
    (Builtin.append_ #[77, 77] 77 #[hdv h11 g.ng, .slice (some ⟨v1.heap.size, 0, none⟩) 1 1]).run Yba.prog (v1.alloc (.cells #[.int .i64 0] 3)) = .ok (.slice (some ⟨A11, 0, none⟩) (g.ng + 1) c11) v2 ∧
    (Builtin.append_ #[78, 78] 78 #[hdv h12 g.ng, .slice (some ⟨v2.heap.size, 0, none⟩) 1 1]).run Yba.prog (v2.alloc (.cells #[.bool k] 4)) = .ok (.slice (some ⟨A12, 0, none⟩) (g.ng + 1) c12) v3 ∧
    (Builtin.append_ #[77, 77] 77 #[hdv h13 g.ng, .slice (some ⟨v3.heap.size, 0, none⟩) 1 1]).run Yba.prog (v3.alloc (.cells #[.int .i64 i] 3)) = .ok (.slice (some ⟨A13, 0, none⟩) (g.ng + 1) c13) v4 ∧
    (∃ v, v4.cell? ⟨A9, i, none⟩ = some v) ∧ v4.frozen? ⟨A9, i, none⟩ = false ∧ v4.cell? ⟨A11, g.ng, none⟩ = some (.int .i64 0) ∧ v4.frozen? ⟨A11, g.ng, none⟩ = false ∧ (∃ v, v4.cell? ⟨A8, i, none⟩ = some v) ∧ v4.frozen? ⟨A8, i, none⟩ = false ∧ A9 ≠ A11 ∧ A8 ≠ A9 ∧ A8 ≠ A11 ∧
    Calls Yba.prog 11 #[ptr g.s.P 0, ptr cb 0] (((v4.setCell ⟨A9, i, none⟩ (.bool true)).setCell ⟨A11, g.ng, none⟩ (.int .i64 1)).setCell ⟨A8, i, none⟩ (.int .i64 g.ng)) fun e w' => e = .returned (.tuple #[]) ∧
      ∃ g' M', LS w0 n K A7 A8 A9 (some (A10, c10)) (some (A11, c11)) (some (A12, c12)) (some (A13, c13)) g' (i + 1) w' M' ∧ g'.s.P = g.s.P ∧ g'.ng = g.ng + 1 ∧ g'.kc = (if k then g.kc + 1 else g.kc) ∧ g'.nn = (if st = ⟨#[]⟩ then g.nn else g.nn + 1)

set_option maxHeartbeats 2000000 in
theorem ls_new {w0 : World} {n K A7 A8 A9 : Nat} {h10 h11 h12 h13 : Option (Nat × Nat)} {g : Gst} {i : Nat} {W : World} {M : Cel} (h : LS w0 n K A7 A8 A9 h10 h11 h12 h13 g i W M) (hi : i < n) (hn : n ≤ 400) (st : ByteArray) (hst : st = ⟨#[]⟩ ∨ (st.toList.isEmpty = false ∧ st.size ≤ maxLen ∧ ∀ id, id < g.ng → g.nm id ≠ st)) (k : Bool) (hk : k = decide (g.kc < K)) :
    LNew w0 n K A7 A8 A9 h10 h11 h12 h13 g i ((W.alloc (.cells (connCells st) 116)).setCell ⟨A7, i, none⟩ (ptr W.heap.size 0)) W.heap.size st k := by
  obtain ⟨s1, f1, c1, l7⟩ := ls_conn h hi st
  have sz1 : ((W.alloc (.cells (connCells st) 116)).setCell ⟨A7, i, none⟩ (ptr W.heap.size 0)).heap.size = W.heap.size + 1 := by simp
  obtain ⟨M1, hM1⟩ : ∃ M1, M1 = up (newB M W.heap.size (connCells st).toList) A7 i (ptr W.heap.size 0) := ⟨_, rfl⟩
  rw [← hM1] at s1 f1 c1
  have m7 : M1 A7 i = some (ptr W.heap.size 0) := by rw [hM1, up_same]
  generalize ((W.alloc (.cells (connCells st) 116)).setCell ⟨A7, i, none⟩ (ptr W.heap.size 0)) = w1 at *
  have R := h.rw_
  have hA := h.fs.agr
  have hng : g.ng ≤ 400 := by have := h.c3; omega
  -- which rows are which
  have x10 : ∀ b, arrB h10 b → ¬ arrB h11 b ∧ ¬ arrB h12 b ∧ ¬ arrB h13 b ∧ b ≠ A7 := fun b hb => ⟨fun h' => by have := R.k10 b hb; rw [R.k11 b h'] at this; simp at this, fun h' => by have := R.k10 b hb; rw [R.k12 b h'] at this; simp at this, fun h' => by have := R.k10 b hb; rw [R.k13 b h'] at this; simp at this, fun e => by have := R.k10 b hb; rw [e, R.k7] at this; simp at this⟩
  have x11 : ∀ b, arrB h11 b → ¬ arrB h10 b ∧ ¬ arrB h12 b ∧ ¬ arrB h13 b ∧ b ≠ A7 := fun b hb => ⟨fun h' => by have := R.k11 b hb; rw [R.k10 b h'] at this; simp at this, fun h' => by have := R.k11 b hb; rw [R.k12 b h'] at this; simp at this, fun h' => by have := R.k11 b hb; rw [R.k13 b h'] at this; simp at this, fun e => by have := R.k11 b hb; rw [e, R.k7] at this; simp at this⟩
  have x12 : ∀ b, arrB h12 b → ¬ arrB h10 b ∧ ¬ arrB h11 b ∧ ¬ arrB h13 b ∧ b ≠ A7 := fun b hb => ⟨fun h' => by have := R.k12 b hb; rw [R.k10 b h'] at this; simp at this, fun h' => by have := R.k12 b hb; rw [R.k11 b h'] at this; simp at this, fun h' => by have := R.k12 b hb; rw [R.k13 b h'] at this; simp at this, fun e => by have := R.k12 b hb; rw [e, R.k7] at this; simp at this⟩
  have x13 : ∀ b, arrB h13 b → ¬ arrB h10 b ∧ ¬ arrB h11 b ∧ ¬ arrB h12 b ∧ b ≠ A7 := fun b hb => ⟨fun h' => by have := R.k13 b hb; rw [R.k10 b h'] at this; simp at this, fun h' => by have := R.k13 b hb; rw [R.k11 b h'] at this; simp at this, fun h' => by have := R.k13 b hb; rw [R.k12 b h'] at this; simp at this, fun e => by have := R.k13 b hb; rw [e, R.k7] at this; simp at this⟩
  have f1' : ∀ b o v, b ≠ A7 → M b o = some v → M1 b o = some v := fun b o v hb hv => f1 b o v hv (fun h' => hb h'.1)
  -- the four appends
  have w10 : Rw w1 M1 9 h10 g.ng := R.w10.keep s1.shape fun b o v hb hv => ⟨v, f1' b o v (x10 b hb).2.2.2 hv⟩
  obtain ⟨A10, c10, v1, M2, run1, st1, rw1, new1, lt1, fr1, nw1, old1⟩ := app1 Yba.underlying79 inf9 (by omega) rfl s1.agr w10 (by omega) (.string st) rfl
  have w11 : Rw v1 M2 3 h11 g.ng := (R.w11.keep s1.shape fun b o v hb hv => ⟨v, f1' b o v (x11 b hb).2.2.2 hv⟩).keep st1.shape fun b o v hb hv => ⟨v, fr1 b o v hv (x11 b hb).1⟩
  obtain ⟨A11, c11, v2, M3, run2, st2, rw2, new2, lt2, fr2, nw2, old2⟩ := app1 Yba.underlying77 inf3 (by omega) rfl st1.agr w11 (by omega) (.int .i64 0) rfl
  have w12 : Rw v2 M3 4 h12 g.ng := ((R.w12.keep s1.shape fun b o v hb hv => ⟨v, f1' b o v (x12 b hb).2.2.2 hv⟩).keep st1.shape fun b o v hb hv => ⟨v, fr1 b o v hv (x12 b hb).1⟩).keep st2.shape fun b o v hb hv => ⟨v, fr2 b o v hv (x12 b hb).2.1⟩
  obtain ⟨A12, c12, v3, M4, run3, st3, rw3, new3, lt3, fr3, nw3, old3⟩ := app1 Yba.underlying78 inf4 (by omega) rfl st2.agr w12 (by omega) (.bool k) rfl
  have w13 : Rw v3 M4 3 h13 g.ng := (((R.w13.keep s1.shape fun b o v hb hv => ⟨v, f1' b o v (x13 b hb).2.2.2 hv⟩).keep st1.shape fun b o v hb hv => ⟨v, fr1 b o v hv (x13 b hb).1⟩).keep st2.shape fun b o v hb hv => ⟨v, fr2 b o v hv (x13 b hb).2.1⟩).keep st3.shape fun b o v hb hv => ⟨v, fr3 b o v hv (x13 b hb).2.2.1⟩
  obtain ⟨A13, c13, v4, M5, run4, st4, rw4, new4, lt4, fr4, nw4, old4⟩ := app1 Yba.underlying77 inf3 (by omega) rfl st3.agr w13 (by omega) (.int .i64 i) rfl
  have z1 := st1.size
  have z2 := st2.size
  have z3 := st3.size
  have z4 := st4.size
  have lta10 : ∀ b, arrB h10 b → b < W.heap.size := fun b hb => R.w10.arr_lt hA hb
  have lta11 : ∀ b, arrB h11 b → b < W.heap.size := fun b hb => R.w11.arr_lt hA hb
  have lta12 : ∀ b, arrB h12 b → b < W.heap.size := fun b hb => R.w12.arr_lt hA hb
  have lta13 : ∀ b, arrB h13 b → b < W.heap.size := fun b hb => R.w13.arr_lt hA hb
  have o10 : arrB h10 A10 ∨ w1.heap.size < A10 := by rcases new1 with h' | h'; · exact Or.inl ⟨c10, h'⟩
                                                     · exact Or.inr h'
  have o11 : arrB h11 A11 ∨ v1.heap.size < A11 := by rcases new2 with h' | h'; · exact Or.inl ⟨c11, h'⟩
                                                     · exact Or.inr h'
  have o12 : arrB h12 A12 ∨ v2.heap.size < A12 := by rcases new3 with h' | h'; · exact Or.inl ⟨c12, h'⟩
                                                     · exact Or.inr h'
  have o13 : arrB h13 A13 ∨ v3.heap.size < A13 := by rcases new4 with h' | h'; · exact Or.inl ⟨c13, h'⟩
                                                     · exact Or.inr h'
  obtain ⟨kd, hkd⟩ : ∃ kd, kd = kdL g.kd W.heap.size i A10 A11 A12 := ⟨_, rfl⟩
  have hk1 : ∀ b, b < W.heap.size → kd b = g.kd b := fun b hb => by rw [hkd]; simp [kdL, hb]
  have kcb : kd W.heap.size = (1, i) := by rw [hkd]; simp [kdL]
  have kA10 : kd A10 = (8, 10) := by
    rcases o10 with h' | h'
    · rw [hk1 _ (lta10 _ h')]; exact R.k10 _ h'
    · have a1 : ¬ A10 < W.heap.size := by omega
      have a2 : ¬ A10 = W.heap.size := by omega
      rw [hkd]; simp [kdL, a1, a2]
  have kA11 : kd A11 = (8, 11) := by
    rcases o11 with h' | h'
    · rw [hk1 _ (lta11 _ h')]; exact R.k11 _ h'
    · have a1 : ¬ A11 < W.heap.size := by omega
      have a2 : ¬ A11 = W.heap.size := by omega
      have a3 : ¬ A11 = A10 := by omega
      rw [hkd]; simp [kdL, a1, a2, a3]
  have kA12 : kd A12 = (8, 12) := by
    rcases o12 with h' | h'
    · rw [hk1 _ (lta12 _ h')]; exact R.k12 _ h'
    · have a1 : ¬ A12 < W.heap.size := by omega
      have a2 : ¬ A12 = W.heap.size := by omega
      have a3 : ¬ A12 = A10 := by omega
      have a4 : ¬ A12 = A11 := by omega
      rw [hkd]; simp [kdL, a1, a2, a3, a4]
  have kA13 : kd A13 = (8, 13) := by
    rcases o13 with h' | h'
    · rw [hk1 _ (lta13 _ h')]; exact R.k13 _ h'
    · have a1 : ¬ A13 < W.heap.size := by omega
      have a2 : ¬ A13 = W.heap.size := by omega
      have a3 : ¬ A13 = A10 := by omega
      have a4 : ¬ A13 = A11 := by omega
      have a5 : ¬ A13 = A12 := by omega
      rw [hkd]; simp [kdL, a1, a2, a3, a4, a5]
  have l8 : A8 < W.heap.size := hA.lt (R.r8 i hi)
  have l9 : A9 < W.heap.size := hA.lt (R.r9 i hi)
  have kA7 : kd A7 = (8, 7) := (hk1 _ l7).trans R.k7
  have kA8 : kd A8 = (8, 8) := (hk1 _ l8).trans R.k8
  have kA9 : kd A9 = (8, 9) := (hk1 _ l9).trans R.k9
  -- a cell that no append touches
  have f15 : ∀ b o v, M1 b o = some v → ¬ arrB h10 b → ¬ arrB h11 b → ¬ arrB h12 b → ¬ arrB h13 b → M5 b o = some v := fun b o v hv n1 n2 n3 n4 => fr4 b o v (fr3 b o v (fr2 b o v (fr1 b o v hv n1) n2) n3) n4
  have nar : ∀ b, (kd b ≠ (8, 10) ∧ kd b ≠ (8, 11) ∧ kd b ≠ (8, 12) ∧ kd b ≠ (8, 13)) → ¬ arrB h10 b ∧ ¬ arrB h11 b ∧ ¬ arrB h12 b ∧ ¬ arrB h13 b := fun b hb => ⟨fun h' => hb.1 ((hk1 b (lta10 b h')).trans (R.k10 b h')), fun h' => hb.2.1 ((hk1 b (lta11 b h')).trans (R.k11 b h')), fun h' => hb.2.2.1 ((hk1 b (lta12 b h')).trans (R.k12 b h')), fun h' => hb.2.2.2 ((hk1 b (lta13 b h')).trans (R.k13 b h'))⟩
  have f15k : ∀ b o v, M1 b o = some v → (kd b ≠ (8, 10) ∧ kd b ≠ (8, 11) ∧ kd b ≠ (8, 12) ∧ kd b ≠ (8, 13)) → M5 b o = some v := fun b o v hv hb => by
    obtain ⟨n1, n2, n3, n4⟩ := nar b hb
    exact f15 b o v hv n1 n2 n3 n4
  have nA10 : ¬ arrB h11 A10 ∧ ¬ arrB h12 A10 ∧ ¬ arrB h13 A10 := ⟨fun h' => by have := (hk1 _ (lta11 _ h')).trans (R.k11 _ h'); rw [kA10] at this; simp at this, fun h' => by have := (hk1 _ (lta12 _ h')).trans (R.k12 _ h'); rw [kA10] at this; simp at this, fun h' => by have := (hk1 _ (lta13 _ h')).trans (R.k13 _ h'); rw [kA10] at this; simp at this⟩
  have nA11 : ¬ arrB h12 A11 ∧ ¬ arrB h13 A11 := ⟨fun h' => by have := (hk1 _ (lta12 _ h')).trans (R.k12 _ h'); rw [kA11] at this; simp at this, fun h' => by have := (hk1 _ (lta13 _ h')).trans (R.k13 _ h'); rw [kA11] at this; simp at this⟩
  have nA12 : ¬ arrB h13 A12 := fun h' => by have := (hk1 _ (lta13 _ h')).trans (R.k13 _ h'); rw [kA12] at this; simp at this
  have u10 : ∀ o v, M2 A10 o = some v → M5 A10 o = some v := fun o v hv => fr4 _ _ _ (fr3 _ _ _ (fr2 _ _ _ hv nA10.1) nA10.2.1) nA10.2.2
  have u11 : ∀ o v, M3 A11 o = some v → M5 A11 o = some v := fun o v hv => fr4 _ _ _ (fr3 _ _ _ hv nA11.1) nA11.2
  have u12 : ∀ o v, M4 A12 o = some v → M5 A12 o = some v := fun o v hv => fr4 _ _ _ hv nA12
  have p9 : ∀ j, j < n → M5 A9 j = some (.bool (decide (j < i) && (g.s.fi (g.s.gid j) == j))) := fun j hj => f15k _ _ _ (f1' _ _ _ (fun e => by rw [e, kA7] at kA9; simp at kA9) (R.r9 j hj)) (by rw [kA9]; simp)
  have p8 : ∀ j, j < n → M5 A8 j = some (.int .i64 (((if j < i then g.s.gid j else 0) : Nat) : Int)) := fun j hj => f15k _ _ _ (f1' _ _ _ (fun e => by rw [e, kA7] at kA8; simp at kA8) (R.r8 j hj)) (by rw [kA8]; simp)
  have p7 : ∀ j, j < n → M5 A7 j = some (if j < i + 1 then ptr ((g.s.new i W.heap.size g.ng).C j) 0 else .pointer none) := fun j hj => f15k _ _ _ (by
    by_cases e : j = i
    · subst e
      have : (g.s.new j W.heap.size g.ng).C j = W.heap.size := upd_eq _ _ _
      rw [this, if_pos (by omega)]
      exact m7
    · have := f1 A7 j _ (R.r7 j hj) (fun h' => e h'.2)
      have hc : (g.s.new i W.heap.size g.ng).C j = g.s.C j := upd_ne _ _ e
      rw [hc, this]
      by_cases hlt : j < i
      · rw [if_pos hlt, if_pos (by omega)]
      · rw [if_neg hlt, if_neg (by omega)]) (by rw [kA7]; simp)
  have q11 : M5 A11 g.ng = some (.int .i64 0) := u11 _ _ nw2
  have n911 : A9 ≠ A11 := fun e => by rw [e, kA11] at kA9; simp at kA9
  have n89 : A8 ≠ A9 := fun e => by rw [e, kA9] at kA8; simp at kA8
  have n811 : A8 ≠ A11 := fun e => by rw [e, kA11] at kA8; simp at kA8
  have t5 : Stp W M v4 M5 := s1.trans (st1.trans (st2.trans (st3.trans st4)))
  have a1 := t5.set (p9 i hi) (.bool true)
  have a2 := a1.set (b := A11) (o := g.ng) (u := .int .i64 0) (by rw [up_other _ _ (Or.inl (Ne.symm n911))]; exact q11) (.int .i64 1)
  have a3 := a2.set (b := A8) (o := i) (u := _) (by rw [up_other _ _ (Or.inl n811), up_other _ _ (Or.inl n89)]; exact p8 i hi) (.int .i64 g.ng)
  refine ⟨A10, c10, v1, A11, c11, v2, A12, c12, v3, A13, c13, v4, run1, run2, run3, run4, ⟨_, (t5.agr _ _ _ (p9 i hi)).1⟩, (t5.agr _ _ _ (p9 i hi)).2, (t5.agr _ _ _ q11).1, (t5.agr _ _ _ q11).2, ⟨_, (t5.agr _ _ _ (p8 i hi)).1⟩, (t5.agr _ _ _ (p8 i hi)).2, n911, n89, n811, ?_⟩
  obtain ⟨M6, hM6⟩ : ∃ M6, M6 = up (up (up M5 A9 i (.bool true)) A11 g.ng (.int .i64 1)) A8 i (.int .i64 g.ng) := ⟨_, rfl⟩
  rw [← hM6] at a3
  have f6 : ∀ b o, ¬ (b = A9 ∧ o = i) → ¬ (b = A11 ∧ o = g.ng) → ¬ (b = A8 ∧ o = i) → M6 b o = M5 b o := fun b o n1 n2 n3 => by
    rw [hM6, up_other _ _ (by omega), up_other _ _ (by omega), up_other _ _ (by omega)]
  have m69 : M6 A9 i = some (.bool true) := by rw [hM6, up_other _ _ (Or.inl (Ne.symm n89)), up_other _ _ (Or.inl n911), up_same]
  have m611 : M6 A11 g.ng = some (.int .i64 1) := by rw [hM6, up_other _ _ (Or.inl (Ne.symm n811)), up_same]
  have m68 : M6 A8 i = some (.int .i64 g.ng) := by rw [hM6, up_same]
  have s6 : ∀ k n t, Shp v4 k n t → Shp (((v4.setCell ⟨A9, i, none⟩ (.bool true)).setCell ⟨A11, g.ng, none⟩ (.int .i64 1)).setCell ⟨A8, i, none⟩ (.int .i64 g.ng)) k n t := fun k n t hh => Shp.set (Shp.set (Shp.set hh _ _ _) _ _ _) _ _ _
  generalize ((v4.setCell ⟨A9, i, none⟩ (.bool true)).setCell ⟨A11, g.ng, none⟩ (.int .i64 1)).setCell ⟨A8, i, none⟩ (.int .i64 g.ng) = v6 at *
  -- all that is not a row stays
  have fr6 : ∀ b o v, M b o = some v → (g.kd b).1 ≠ 8 → M6 b o = some v := fun b o v hv hne => by
    have hb := hA.lt hv
    have hne' : (kd b).1 ≠ 8 := by rw [hk1 b hb]; exact hne
    have nb : ∀ x, kd x = (8, 7) ∨ kd x = (8, 8) ∨ kd x = (8, 9) ∨ kd x = (8, 11) → b ≠ x := fun x hx e => by
      rw [e] at hne'
      rcases hx with h' | h' | h' | h' <;> rw [h'] at hne' <;> simp at hne'
    rw [f6 b o (fun h' => nb A9 (by simp [kA9]) h'.1) (fun h' => nb A11 (by simp [kA11]) h'.1) (fun h' => nb A8 (by simp [kA8]) h'.1)]
    refine f15k b o v (f1' b o v (nb A7 (by simp [kA7])) hv) ⟨?_, ?_, ?_, ?_⟩ <;> intro h' <;> rw [h'] at hne' <;> simp at hne'
  have fs6 : Fas { g with kd := kd } i K v6 M6 := h.fs.keep hk1 a3 fr6
  have cc : ∀ o, M6 W.heap.size o = (connCells st).toList[o]? := fun o => by
    rw [f6 _ _ (fun h' => by omega) (fun h' => by rw [← h'.1, kcb] at kA11; simp at kA11) (fun h' => by omega)]
    rw [← c1 o]
    cases e : M1 W.heap.size o with
    | none =>
      cases e5 : M5 W.heap.size o with
      | none => rfl
      | some v =>
        exfalso
        -- a cell of the connection's block is there in M1 or not at all
        have d4 : M4 W.heap.size o ≠ none := by
          rcases st4.fresh W.heap.size o (by rw [e5]; simp) with h' | h'
          · exact h'
          · omega
        have d3 : M3 W.heap.size o ≠ none := by
          rcases st3.fresh W.heap.size o d4 with h' | h'
          · exact h'
          · omega
        have d2 : M2 W.heap.size o ≠ none := by
          rcases st2.fresh W.heap.size o d3 with h' | h'
          · exact h'
          · omega
        rcases st1.fresh W.heap.size o d2 with h' | h'
        · exact h' e
        · omega
    | some v => exact f15k _ _ _ e (by rw [kcb]; simp)
  have nW : NewW M6 W.heap.size := ⟨cc 20, cc 21, cc 22, cc 23, cc 25, cc 26, cc 27, cc 30, cc 31⟩
  have nA : NewA M6 W.heap.size := ⟨cc 8, cc 9, cc 10, cc 11, cc 12, cc 13, cc 14, cc 17, cc 18, cc 19⟩
  have hnr : g.nr ≤ 400 := by have := cnt_le (f := want g.s) g.ng; have := h.c2; omega
  have hc1 := h.c1
  have hc3 := h.c3
  have hc4 := h.c4
  have hop : Calls Yba.prog 11 #[ptr g.s.P 0, ptr W.heap.size 0] v6 fun e w' => e = .returned (.tuple #[]) ∧ ONew { g with kd := kd } i K v6 M6 W.heap.size st w' := by
    rcases hst with rfl | ⟨hs1, hs2, hs3⟩
    · exact fs_open_own fs6 kcb (by omega) (by show g.nr ≤ _; omega) (by show g.nu ≤ _; omega) (by show g.kc ≤ _; omega) (cc 3) nW nA
    · exact fs_open_new fs6 kcb (by omega) (by show g.nr ≤ _; omega) (by show g.nu ≤ _; omega) (by show g.kc ≤ _; omega) (by show g.nn ≤ _; omega) hs3 hs1 hs2 (cc 3) nW nA
  refine hop.mono fun e w' ⟨he, g', M', op, hng', hnm', hnn', hcase⟩ => ⟨he, g', M', ?_, ?_, hng', ?_, hnn'⟩
  all_goals dsimp only at hng' hnm' hnn' hcase
  · -- the rows ahead of open, in the words of the state behind it
    have hkp : g'.s.kp g.ng = k := by
      rcases hcase with ⟨hb, hs', _⟩ | ⟨hb, hs', _⟩ <;> rw [hs', hk]
      · rw [decide_eq_true hb]; exact upd_eq _ _ _
      · rw [decide_eq_false (by omega)]; exact upd_eq _ _ _
    have hkpo : ∀ j, j < g.ng → g'.s.kp j = g.s.kp j := fun j hj => by
      rcases hcase with ⟨hb, hs', _⟩ | ⟨hb, hs', _⟩ <;> rw [hs']
      · exact (upd_ne _ _ (by omega)).trans (upd_ne _ _ (by omega))
      · exact upd_ne _ _ (by omega)
    have hC : g'.s.C = (g.s.new i W.heap.size g.ng).C := by rcases hcase with ⟨_, hs', _⟩ | ⟨_, hs', _⟩ <;> rw [hs'] <;> rfl
    have hgid : g'.s.gid = (g.s.new i W.heap.size g.ng).gid := by rcases hcase with ⟨_, hs', _⟩ | ⟨_, hs', _⟩ <;> rw [hs'] <;> rfl
    have hsz : g'.s.sz = (g.s.new i W.heap.size g.ng).sz := by rcases hcase with ⟨_, hs', _⟩ | ⟨_, hs', _⟩ <;> rw [hs'] <;> rfl
    have hfi : g'.s.fi = (g.s.new i W.heap.size g.ng).fi := by rcases hcase with ⟨_, hs', _⟩ | ⟨_, hs', _⟩ <;> rw [hs'] <;> rfl
    have gn : ∀ j, j ≠ i → (g.s.new i W.heap.size g.ng).gid j = g.s.gid j := fun j hj => upd_ne _ _ hj
    have gi : (g.s.new i W.heap.size g.ng).gid i = g.ng := upd_eq _ _ _
    have fn : ∀ d, d ≠ g.ng → (g.s.new i W.heap.size g.ng).fi d = g.s.fi d := fun d hd => upd_ne _ _ hd
    have fi' : (g.s.new i W.heap.size g.ng).fi g.ng = i := upd_eq _ _ _
    have sn : ∀ d, d ≠ g.ng → (g.s.new i W.heap.size g.ng).sz d = g.s.sz d := fun d hd => upd_ne _ _ hd
    have si : (g.s.new i W.heap.size g.ng).sz g.ng = 1 := upd_eq _ _ _
    have kx : ∀ {A B : Nat} {a b : Nat}, kd A = (8, a) → kd B = (8, b) → a ≠ b → A ≠ B := fun h1 h2 h3 e => by
      rw [e, h2] at h1
      simp at h1
      exact h3 h1.symm
    have rws : Rws kd n A7 A8 A9 (some (A10, c10)) (some (A11, c11)) (some (A12, c12)) (some (A13, c13)) g'.s g'.nm (i + 1) g'.ng v6 M6 := by
      rw [hng', hnm']
      refine ⟨kA7, kA8, kA9, fun b hb => by rw [arrB_some.1 hb]; exact kA10, fun b hb => by rw [arrB_some.1 hb]; exact kA11, fun b hb => by rw [arrB_some.1 hb]; exact kA12, fun b hb => by rw [arrB_some.1 hb]; exact kA13, fun j hj => ?_, fun j hj => ?_, fun j hj => ?_, ?_, ?_, ?_, ?_, fun b j hb hj => ?_, fun b j hb hj => ?_, fun b j hb hj => ?_, fun b j hb hj => ?_⟩
      · rw [hC, f6 _ _ (fun h' => kx kA7 kA9 (by decide) h'.1) (fun h' => kx kA7 kA11 (by decide) h'.1) (fun h' => kx kA7 kA8 (by decide) h'.1)]
        exact p7 j hj
      · rw [hgid]
        by_cases e : j = i
        · subst e
          rw [if_pos (by omega), gi]
          exact m68
        · rw [f6 _ _ (fun h' => n89 h'.1) (fun h' => n811 h'.1) (fun h' => e h'.2), p8 j hj, gn j e]
          by_cases hlt : j < i
          · rw [if_pos hlt, if_pos (by omega)]
          · rw [if_neg hlt, if_neg (by omega)]
      · rw [hgid, hfi]
        by_cases e : j = i
        · subst e
          rw [gi, fi', m69]
          simp
        · rw [f6 _ _ (fun h' => e h'.2) (fun h' => n911 h'.1) (fun h' => n89 h'.1.symm), p9 j hj, gn j e]
          by_cases hlt : j < i
          · have hgl := h.fs.sh.gl j hlt
            rw [fn _ (by omega)]
            simp [hlt, show j < i + 1 by omega]
          · simp [hlt, show ¬ j < i + 1 by omega]
      · exact ((rw1.keep st2.shape fun b o v hb hv => ⟨v, fr2 b o v hv (by rw [arrB_some.1 hb]; exact nA10.1)⟩).keep st3.shape fun b o v hb hv => ⟨v, fr3 b o v hv (by rw [arrB_some.1 hb]; exact nA10.2.1)⟩).keep (w' := v6) (M' := M6) (fun k n t hh => s6 k n t (st4.shape k n t hh)) fun b o v hb hv => ⟨v, by
          rw [arrB_some.1 hb] at hv ⊢
          rw [f6 _ _ (fun h' => kx kA10 kA9 (by decide) h'.1) (fun h' => kx kA10 kA11 (by decide) h'.1) (fun h' => kx kA10 kA8 (by decide) h'.1)]
          exact fr4 _ _ _ hv nA10.2.2⟩
      · exact (rw2.keep st3.shape fun b o v hb hv => ⟨v, fr3 b o v hv (by rw [arrB_some.1 hb]; exact nA11.1)⟩).keep (w' := v6) (M' := M6) (fun k n t hh => s6 k n t (st4.shape k n t hh)) fun b o v hb hv => by
          rw [arrB_some.1 hb] at hv ⊢
          by_cases e : o = g.ng
          · subst e
            exact ⟨_, m611⟩
          · refine ⟨v, ?_⟩
            rw [f6 _ _ (fun h' => n911 h'.1.symm) (fun h' => e h'.2) (fun h' => n811 h'.1.symm)]
            exact fr4 _ _ _ hv nA11.2
      · exact rw3.keep (w' := v6) (M' := M6) (fun k n t hh => s6 k n t (st4.shape k n t hh)) fun b o v hb hv => ⟨v, by
          rw [arrB_some.1 hb] at hv ⊢
          rw [f6 _ _ (fun h' => kx kA12 kA9 (by decide) h'.1) (fun h' => kx kA12 kA11 (by decide) h'.1) (fun h' => kx kA12 kA8 (by decide) h'.1)]
          exact fr4 _ _ _ hv nA12⟩
      · exact rw4.keep (w' := v6) (M' := M6) s6 fun b o v hb hv => ⟨v, by
          rw [arrB_some.1 hb] at hv ⊢
          rw [f6 _ _ (fun h' => kx kA13 kA9 (by decide) h'.1) (fun h' => kx kA13 kA11 (by decide) h'.1) (fun h' => kx kA13 kA8 (by decide) h'.1)]
          exact hv⟩
      · rw [arrB_some.1 hb, f6 _ _ (fun h' => kx kA10 kA9 (by decide) h'.1) (fun h' => kx kA10 kA11 (by decide) h'.1) (fun h' => kx kA10 kA8 (by decide) h'.1)]
        by_cases e : j = g.ng
        · subst e
          rw [upd_eq]
          exact u10 _ _ nw1
        · rw [upd_ne _ _ e]
          obtain ⟨b0, hb0⟩ := R.w10.some (k := j) (by omega)
          exact u10 _ _ (old1 b0 j _ hb0 (by omega) (f1' _ _ _ (x10 b0 hb0).2.2.2 (R.e10 b0 j hb0 (by omega))))
      · rw [arrB_some.1 hb, hsz]
        by_cases e : j = g.ng
        · subst e
          rw [si]
          exact m611
        · rw [sn j e, f6 _ _ (fun h' => n911 h'.1.symm) (fun h' => e h'.2) (fun h' => n811 h'.1.symm)]
          obtain ⟨b0, hb0⟩ := R.w11.some (k := j) (by omega)
          exact u11 _ _ (old2 b0 j _ hb0 (by omega) (fr1 _ _ _ (f1' _ _ _ (x11 b0 hb0).2.2.2 (R.e11 b0 j hb0 (by omega))) (x11 b0 hb0).1))
      · rw [arrB_some.1 hb, f6 _ _ (fun h' => kx kA12 kA9 (by decide) h'.1) (fun h' => kx kA12 kA11 (by decide) h'.1) (fun h' => kx kA12 kA8 (by decide) h'.1)]
        by_cases e : j = g.ng
        · subst e
          rw [hkp]
          exact u12 _ _ nw3
        · rw [hkpo j (by omega)]
          obtain ⟨b0, hb0⟩ := R.w12.some (k := j) (by omega)
          exact u12 _ _ (old3 b0 j _ hb0 (by omega) (fr2 _ _ _ (fr1 _ _ _ (f1' _ _ _ (x12 b0 hb0).2.2.2 (R.e12 b0 j hb0 (by omega))) (x12 b0 hb0).1) (x12 b0 hb0).2.1))
      · rw [arrB_some.1 hb, hfi, f6 _ _ (fun h' => kx kA13 kA9 (by decide) h'.1) (fun h' => kx kA13 kA11 (by decide) h'.1) (fun h' => kx kA13 kA8 (by decide) h'.1)]
        by_cases e : j = g.ng
        · subst e
          rw [fi']
          exact nw4
        · rw [fn j e]
          obtain ⟨b0, hb0⟩ := R.w13.some (k := j) (by omega)
          exact old4 b0 j _ hb0 (by omega) (fr3 _ _ _ (fr2 _ _ _ (fr1 _ _ _ (f1' _ _ _ (x13 b0 hb0).2.2.2 (R.e13 b0 j hb0 (by omega))) (x13 b0 hb0).1) (x13 b0 hb0).2.1) (x13 b0 hb0).2.2.1)
    have wn : ∀ d, d < g.ng → want g'.s d = want g.s d := fun d hd => by
      unfold want
      rw [hsz, hkpo d hd, sn d (by omega)]
    refine ls_after h (by omega) a3 op rws ?_ ?_ ?_ ?_ ?_ ?_
    · rcases hcase with ⟨_, _, h1, h2, _⟩ | ⟨_, _, h1, h2, _⟩
      · rw [h1, h2, hng']
        show g.nu + (g.kc + 1) = g.ng + 1
        omega
      · rw [h1, h2, hng']
        show g.nu + 1 + g.kc = g.ng + 1
        omega
    · rw [hng']
      show _ = cnt (want g'.s) g.ng + _
      rw [cnt_congr g.ng wn, ← h.c2]
      have hw : want g'.s g.ng = 1 - (if k then 1 else 0) := by
        unfold want
        rw [hsz, si, hkp]
      rw [hw]
      rcases hcase with ⟨hb, _, _, _, h1⟩ | ⟨hb, _, _, _, h1⟩
      · rw [h1, hk, decide_eq_true hb]
        rfl
      · rw [h1, hk, decide_eq_false (by omega)]
        rfl
    · rw [hng']
      show g.ng + 1 ≤ i + 1
      omega
    · rw [hng', hnn']
      show (if st = ⟨#[]⟩ then g.nn else g.nn + 1) ≤ g.ng + 1
      split <;> omega
    · intro j hj
      rw [hnm', hgid, hfi]
      by_cases e : j = i
      · subst e
        rw [gi, fi']
        exact fun _ => rfl
      · have hgl := h.fs.sh.gl j (by omega)
        rw [gn j e, upd_ne _ _ (by omega), fn _ (by omega)]
        exact h.c5 j (by omega)
    · intro d hd
      rw [hnm']
      rw [hng'] at hd
      by_cases e : d = g.ng
      · subst e
        rw [upd_eq]
        rcases hst with rfl | ⟨_, hs2, _⟩
        · exact Nat.zero_le _
        · exact hs2
      · rw [upd_ne _ _ e]
        exact h.c6 d (by omega)
  · rcases hcase with ⟨_, hs', _⟩ | ⟨_, hs', _⟩ <;> rw [hs'] <;> rfl
  · rcases hcase with ⟨hb, _, h1, _⟩ | ⟨hb, _, h1, _⟩
    · rw [h1, hk, decide_eq_true hb]; rfl
    · rw [h1, hk, decide_eq_false (by omega)]; rfl
end Go.Proofs.Ybulkdcoi
