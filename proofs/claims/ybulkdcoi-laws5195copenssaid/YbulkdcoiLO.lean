/-
  ONE ROUND OF THE LAW's FIRST LOOP: one more connection of a group that is there.
-/
import Derived.Test.YbulkdcoiLN
namespace Go.Proofs.Ybulkdcoi
open Go.RowKit
set_option linter.unusedVariables false

def LOld (w0 : World) (n K A7 A8 A9 : Nat) (h10 h11 h12 h13 : Option (Nat × Nat)) (g : Gst) (i : Nat) (w1 : World) (cb id : Nat) : Prop :=
  ∃ A11 c11, h11 = some (A11, c11) ∧ w1.cell? ⟨A11, id, none⟩ = some (.int .i64 (g.s.sz id)) ∧ w1.frozen? ⟨A11, id, none⟩ = false ∧ (∃ v, w1.cell? ⟨A8, i, none⟩ = some v) ∧ w1.frozen? ⟨A8, i, none⟩ = false ∧ A8 ≠ A11 ∧ g.s.sz id ≤ 400 ∧
    Calls Yba.prog 11 #[ptr g.s.P 0, ptr cb 0] ((w1.setCell ⟨A11, id, none⟩ (.int .i64 ((g.s.sz id : Int) + 1))).setCell ⟨A8, i, none⟩ (.int .i64 id)) fun e w' => e = .returned (.tuple #[]) ∧
      ∃ g' M', LS w0 n K A7 A8 A9 h10 h11 h12 h13 g' (i + 1) w' M' ∧ g'.s.P = g.s.P ∧ g'.ng = g.ng ∧ g'.kc = g.kc ∧ g'.nn = g.nn

set_option maxHeartbeats 2000000 in
theorem ls_old {w0 : World} {n K A7 A8 A9 : Nat} {h10 h11 h12 h13 : Option (Nat × Nat)} {g : Gst} {i : Nat} {W : World} {M : Cel} (h : LS w0 n K A7 A8 A9 h10 h11 h12 h13 g i W M) (hi : i < n) (hn : n ≤ 400) (st : ByteArray) (id : Nat) (hid : id < g.ng) (hnm : g.nm id = st) (hst : st.toList.isEmpty = false) (hst2 : st.size ≤ maxLen) :
    LOld w0 n K A7 A8 A9 h10 h11 h12 h13 g i ((W.alloc (.cells (connCells st) 116)).setCell ⟨A7, i, none⟩ (ptr W.heap.size 0)) W.heap.size id := by
  obtain ⟨s1, f1, c1, l7⟩ := ls_conn h hi st
  obtain ⟨M1, hM1⟩ : ∃ M1, M1 = up (newB M W.heap.size (connCells st).toList) A7 i (ptr W.heap.size 0) := ⟨_, rfl⟩
  rw [← hM1] at s1 f1 c1
  have m7 : M1 A7 i = some (ptr W.heap.size 0) := by rw [hM1, up_same]
  generalize ((W.alloc (.cells (connCells st) 116)).setCell ⟨A7, i, none⟩ (ptr W.heap.size 0)) = w1 at *
  have R := h.rw_
  have hA := h.fs.agr
  have hsz0 := h.fs.sh.sz1 id hid
  obtain ⟨A11, c11, hh11⟩ : ∃ A c, h11 = some (A, c) := by
    obtain ⟨b, c, hb⟩ := R.w11.some (k := id) hid
    exact ⟨b, c, hb⟩
  have ar11 : arrB h11 A11 := ⟨c11, hh11⟩
  obtain ⟨kd, hkd⟩ : ∃ kd : Nat → Nat × Nat, kd = fun b => if b < W.heap.size then g.kd b else (1, i) := ⟨_, rfl⟩
  have hk1 : ∀ b, b < W.heap.size → kd b = g.kd b := fun b hb => by rw [hkd]; simp [hb]
  have kcb : kd W.heap.size = (1, i) := by rw [hkd]; simp
  have l8 : A8 < W.heap.size := hA.lt (R.r8 i hi)
  have l9 : A9 < W.heap.size := hA.lt (R.r9 i hi)
  have l11 : A11 < W.heap.size := R.w11.arr_lt hA ar11
  have kA7 : kd A7 = (8, 7) := (hk1 _ l7).trans R.k7
  have kA8 : kd A8 = (8, 8) := (hk1 _ l8).trans R.k8
  have kA9 : kd A9 = (8, 9) := (hk1 _ l9).trans R.k9
  have kA11 : kd A11 = (8, 11) := (hk1 _ l11).trans (R.k11 _ ar11)
  have n811 : A8 ≠ A11 := fun e => by rw [e, kA11] at kA8; simp at kA8
  have n78 : A8 ≠ A7 := fun e => by rw [e, kA7] at kA8; simp at kA8
  have n711 : A11 ≠ A7 := fun e => by rw [e, kA7] at kA11; simp at kA11
  have f1' : ∀ b o v, b ≠ A7 → M b o = some v → M1 b o = some v := fun b o v hb hv => f1 b o v hv (fun h' => hb h'.1)
  have q11 : M1 A11 id = some (.int .i64 (g.s.sz id)) := f1' _ _ _ n711 (R.e11 A11 id ar11 hid)
  have q8 := f1' _ _ _ n78 (R.r8 i hi)
  have a1 := s1.set q11 (.int .i64 ((g.s.sz id : Int) + 1))
  have a2 := a1.set (b := A8) (o := i) (u := _) (by rw [up_other _ _ (Or.inl n811)]; exact q8) (.int .i64 id)
  refine ⟨A11, c11, hh11, (s1.agr _ _ _ q11).1, (s1.agr _ _ _ q11).2, ⟨_, (s1.agr _ _ _ q8).1⟩, (s1.agr _ _ _ q8).2, n811, by omega, ?_⟩
  obtain ⟨M6, hM6⟩ : ∃ M6, M6 = up (up M1 A11 id (.int .i64 ((g.s.sz id : Int) + 1))) A8 i (.int .i64 id) := ⟨_, rfl⟩
  rw [← hM6] at a2
  have f6 : ∀ b o, ¬ (b = A11 ∧ o = id) → ¬ (b = A8 ∧ o = i) → M6 b o = M1 b o := fun b o n2 n3 => by
    rw [hM6, up_other _ _ (by omega), up_other _ _ (by omega)]
  have m611 : M6 A11 id = some (.int .i64 ((g.s.sz id : Int) + 1)) := by rw [hM6, up_other _ _ (Or.inl (Ne.symm n811)), up_same]
  have m68 : M6 A8 i = some (.int .i64 id) := by rw [hM6, up_same]
  generalize (w1.setCell ⟨A11, id, none⟩ (.int .i64 ((g.s.sz id : Int) + 1))).setCell ⟨A8, i, none⟩ (.int .i64 id) = v6 at *
  have fr6 : ∀ b o v, M b o = some v → (g.kd b).1 ≠ 8 → M6 b o = some v := fun b o v hv hne => by
    have hb := hA.lt hv
    have hne' : (kd b).1 ≠ 8 := by rw [hk1 b hb]; exact hne
    have nb : ∀ x, kd x = (8, 7) ∨ kd x = (8, 8) ∨ kd x = (8, 11) → b ≠ x := fun x hx e => by
      rw [e] at hne'
      rcases hx with h' | h' | h' <;> rw [h'] at hne' <;> simp at hne'
    rw [f6 b o (fun h' => nb A11 (by simp [kA11]) h'.1) (fun h' => nb A8 (by simp [kA8]) h'.1)]
    exact f1' b o v (nb A7 (by simp [kA7])) hv
  have fs6 : Fas { g with kd := kd } i K v6 M6 := h.fs.keep hk1 a2 fr6
  have cc : ∀ o, M6 W.heap.size o = (connCells st).toList[o]? := fun o => by
    rw [f6 _ _ (fun h' => by omega) (fun h' => by omega)]
    exact c1 o
  have nW : NewW M6 W.heap.size := ⟨cc 20, cc 21, cc 22, cc 23, cc 25, cc 26, cc 27, cc 30, cc 31⟩
  have nA : NewA M6 W.heap.size := ⟨cc 8, cc 9, cc 10, cc 11, cc 12, cc 13, cc 14, cc 17, cc 18, cc 19⟩
  have hc1 := h.c1
  have hc3 := h.c3
  have hc4 := h.c4
  have hnr : g.nr ≤ 400 := by have := cnt_le (f := want g.s) g.ng; have := h.c2; omega
  refine (fs_open_old fs6 kcb (by omega) (by show g.nr ≤ _; omega) hid hnm hst hst2 (cc 3) nW nA).mono fun e w' ⟨he, g', M', op, hng', hnm', hnn', hs', hkc', hnu', hnr'⟩ => ⟨he, g', M', ?_, ?_, hng', hkc', hnn'⟩
  all_goals dsimp only at hng' hnm' hnn' hs' hkc' hnu' hnr'
  · have hfi := h.fs.sh.fi_ id hid
    have gn : ∀ j, j ≠ i → (g.s.old i W.heap.size id).gid j = g.s.gid j := fun j hj => upd_ne _ _ hj
    have gi : (g.s.old i W.heap.size id).gid i = id := upd_eq _ _ _
    have sn : ∀ d, d ≠ id → (g.s.old i W.heap.size id).sz d = g.s.sz d := fun d hd => upd_ne _ _ hd
    have si : (g.s.old i W.heap.size id).sz id = g.s.sz id + 1 := upd_eq _ _ _
    have kx : ∀ {A B : Nat} {a b : Nat}, kd A = (8, a) → kd B = (8, b) → a ≠ b → A ≠ B := fun h1 h2 h3 e => by
      rw [e, h2] at h1
      simp at h1
      exact h3 h1.symm
    have k10' : ∀ b, arrB h10 b → kd b = (8, 10) := fun b hb => (hk1 _ (R.w10.arr_lt hA hb)).trans (R.k10 b hb)
    have k11' : ∀ b, arrB h11 b → kd b = (8, 11) := fun b hb => (hk1 _ (R.w11.arr_lt hA hb)).trans (R.k11 b hb)
    have k12' : ∀ b, arrB h12 b → kd b = (8, 12) := fun b hb => (hk1 _ (R.w12.arr_lt hA hb)).trans (R.k12 b hb)
    have k13' : ∀ b, arrB h13 b → kd b = (8, 13) := fun b hb => (hk1 _ (R.w13.arr_lt hA hb)).trans (R.k13 b hb)
    -- a row that this round does not touch
    have far : ∀ b a o v, kd b = (8, a) → a ≠ 7 → a ≠ 8 → a ≠ 11 → M b o = some v → M6 b o = some v := fun b a o v hb h7 h8 h11' hv => by
      rw [f6 _ _ (fun h' => kx hb kA11 h11' h'.1) (fun h' => kx hb kA8 h8 h'.1)]
      exact f1' _ _ _ (kx hb kA7 h7) hv
    have rws : Rws kd n A7 A8 A9 h10 h11 h12 h13 g'.s g'.nm (i + 1) g'.ng v6 M6 := by
      rw [hng', hnm', hs']
      refine ⟨kA7, kA8, kA9, k10', k11', k12', k13', fun j hj => ?_, fun j hj => ?_, fun j hj => ?_, ?_, ?_, ?_, ?_, fun b j hb hj => far b 10 _ _ (k10' b hb) (by decide) (by decide) (by decide) (R.e10 b j hb hj), fun b j hb hj => ?_, fun b j hb hj => far b 12 _ _ (k12' b hb) (by decide) (by decide) (by decide) (R.e12 b j hb hj), fun b j hb hj => far b 13 _ _ (k13' b hb) (by decide) (by decide) (by decide) (R.e13 b j hb hj)⟩
      · rw [f6 _ _ (fun h' => n711 h'.1.symm) (fun h' => n78 h'.1.symm)]
        by_cases e : j = i
        · subst e
          have : (g.s.old j W.heap.size id).C j = W.heap.size := upd_eq _ _ _
          rw [this, if_pos (by omega)]
          exact m7
        · have := f1 A7 j _ (R.r7 j hj) (fun h' => e h'.2)
          have hc : (g.s.old i W.heap.size id).C j = g.s.C j := upd_ne _ _ e
          rw [hc, this]
          by_cases hlt : j < i
          · rw [if_pos hlt, if_pos (by omega)]
          · rw [if_neg hlt, if_neg (by omega)]
      · by_cases e : j = i
        · subst e
          rw [if_pos (by omega), gi]
          exact m68
        · rw [f6 _ _ (fun h' => n811 h'.1) (fun h' => e h'.2), f1' _ _ _ n78 (R.r8 j hj), gn j e]
          by_cases hlt : j < i
          · rw [if_pos hlt, if_pos (by omega)]
          · rw [if_neg hlt, if_neg (by omega)]
      · rw [far A9 9 _ _ kA9 (by decide) (by decide) (by decide) (R.r9 j hj)]
        show _ = some (Value.bool (decide (j < i + 1) && (g.s.fi ((g.s.old i W.heap.size id).gid j) == j)))
        by_cases e : j = i
        · subst e
          rw [gi]
          have hne : ¬ g.s.fi id = j := by omega
          simp [hne]
        · rw [gn j e]
          by_cases hlt : j < i
          · simp [hlt, show j < i + 1 by omega]
          · simp [hlt, show ¬ j < i + 1 by omega]
      · exact R.w10.keep a2.shape fun b o v hb hv => ⟨v, far b 10 _ _ (k10' b hb) (by decide) (by decide) (by decide) hv⟩
      · exact R.w11.keep a2.shape fun b o v hb hv => by
          rw [hh11] at hb
          rw [arrB_some.1 hb] at hv ⊢
          by_cases e : o = id
          · subst e
            exact ⟨_, m611⟩
          · exact ⟨v, by rw [f6 _ _ (fun h' => e h'.2) (fun h' => n811 h'.1.symm)]; exact f1' _ _ _ n711 hv⟩
      · exact R.w12.keep a2.shape fun b o v hb hv => ⟨v, far b 12 _ _ (k12' b hb) (by decide) (by decide) (by decide) hv⟩
      · exact R.w13.keep a2.shape fun b o v hb hv => ⟨v, far b 13 _ _ (k13' b hb) (by decide) (by decide) (by decide) hv⟩
      · have hb' := hb
        rw [hh11] at hb'
        have eb := arrB_some.1 hb'
        by_cases e : j = id
        · subst e
          rw [si, eb, m611]
          have e1 : ((g.s.sz j + 1 : Nat) : Int) = (g.s.sz j : Int) + 1 := by omega
          rw [e1]
        · rw [sn j e, f6 _ _ (fun h' => e h'.2) (fun h' => by rw [eb] at h'; exact n811 h'.1.symm)]
          exact f1' _ _ _ (by rw [eb]; exact n711) (R.e11 b j hb hj)
    have wo : want g'.s id = want g.s id + 1 := by
      rw [hs']
      cases hkk : g.s.kp id <;> simp [want, Sh.old, upd, hkk] <;> omega
    have wn : ∀ d, d ≠ id → want g.s d = want g'.s d := fun d hd => by
      rw [hs']
      show _ = upd g.s.sz id (g.s.sz id + 1) d - _
      rw [upd_ne _ _ hd]
      rfl
    refine ls_after h (by omega) a2 op rws ?_ ?_ ?_ ?_ ?_ ?_
    · rw [hnu', hkc', hng']; exact hc1
    · rw [hnr', hng', h.c2]
      by_cases hw : 0 < want g.s id
      · rw [if_pos hw]
        exact (cnt_same g.ng wn hw (by omega)).symm
      · rw [if_neg hw]
        exact (cnt_upd g.ng hid wn (by omega) (by omega)).symm
    · rw [hng']; omega
    · rw [hng', hnn']; exact hc4
    · intro j hj
      rw [hnm', hs']
      by_cases e : j = i
      · subst e
        rw [gi, hnm]
        intro hh
        rw [hh, emp_toList] at hst
        cases hst
      · rw [gn j e]
        exact h.c5 j (by omega)
    · intro d hd
      rw [hnm']
      rw [hng'] at hd
      exact h.c6 d hd
  · rw [hs']; rfl
end Go.Proofs.Ybulkdcoi
