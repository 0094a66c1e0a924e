/-
  THE LAW's OWN STATE: the places, and its rows: connections, group numbers, firsts; names, sizes, kept, first ones.
-/
import Derived.Test.YbulkdcoiN
namespace Go.Proofs.Ybulkdcoi
open Go.RowKit
set_option linter.unusedVariables false

def cnt (f : Nat → Nat) : Nat → Nat
  | 0 => 0
  | k + 1 => cnt f k + (if 0 < f k then 1 else 0)
theorem cnt_congr {f f' : Nat → Nat} : ∀ k, (∀ j, j < k → f j = f' j) → cnt f k = cnt f' k
  | 0, _ => rfl
  | k + 1, h => by
    simp only [cnt]
    rw [cnt_congr k (fun j hj => h j (by omega)), h k (by omega)]
theorem cnt_upd {f f' : Nat → Nat} {d : Nat} : ∀ k, d < k → (∀ j, j ≠ d → f j = f' j) → f d = 0 → 0 < f' d → cnt f' k = cnt f k + 1
  | 0, h, _, _, _ => by omega
  | k + 1, h, hj, h0, h1 => by
    simp only [cnt]
    by_cases e : d = k
    · subst e
      rw [cnt_congr d (f := f') (f' := f) (fun j hj' => (hj j (by omega)).symm), h0, if_pos h1]
      simp
    · rw [cnt_upd k (by omega) hj h0 h1, hj k (fun e' => e e'.symm)]
      omega
theorem cnt_same {f f' : Nat → Nat} {d : Nat} : ∀ k, (∀ j, j ≠ d → f j = f' j) → 0 < f d → 0 < f' d → cnt f' k = cnt f k
  | 0, _, _, _ => rfl
  | k + 1, hj, h0, h1 => by
    simp only [cnt]
    rw [cnt_same k hj h0 h1]
    by_cases e : k = d
    · subst e
      rw [if_pos h0, if_pos h1]
    · rw [hj k e]
theorem cnt_le {f : Nat → Nat} : ∀ k, cnt f k ≤ k
  | 0 => Nat.le_refl _
  | k + 1 => by
    simp only [cnt]
    have := cnt_le (f := f) k
    split <;> omega

abbrev connCells (st : ByteArray) : Array Value := #[.nilIface, .string ⟨#[]⟩, .int .u8 0, .string st, .int .u64 0, .int .i64 0, .bool false, .bool false, .pointer none,
  .pointer none, .pointer none, .int .u64 0, .string ⟨#[]⟩, .pointer none, .pointer none, .pointer none, .nilIface, .int .i64 0,
  .bool false, .int .i64 0, .pointer none, .pointer none, .pointer none, .int .u64 0, .string ⟨#[]⟩, .int .i64 0, .pointer none,
  .pointer none, .pointer none, .nilIface, .int .i64 0, .int .i64 0, .string ⟨#[]⟩, .bool false, .int .i32 0, .int .u32 0,
  .slice none 0 0, .slice none 0 0, .int .i64 0, .bool false, .pointer none, .chan none, .int .i64 0, .pointer none, .pointer none, .pointer none,
  .int .u64 0, .string ⟨#[]⟩, .int .i64 0, .pointer none, .pointer none, .pointer none, .nilIface, .int .i64 0, .int .i64 0, .string ⟨#[]⟩]

/-- What stands through a step of the law's own rows. -/
theorem Fas.keep {g : Gst} {i K : Nat} {W w' : World} {M M' : Cel} (h : Fas g i K W M) {kd : Nat → Nat × Nat} (hk : ∀ b, b < W.heap.size → kd b = g.kd b) (st : Stp W M w' M') (fr : ∀ b o v, M b o = some v → (g.kd b).1 ≠ 8 → M' b o = some v) : Fas { g with kd := kd } i K w' M' := by
  have ws' := h.ws.kdx h.agr hk
  have as' := h.ah.kdx h.agr hk
  have hs' := h.ws.sh h.sh h.agr hk
  have fr' : ∀ b o v, M b o = some v → (kd b).1 ≠ 8 → M' b o = some v := fun b o v hv hne => fr b o v hv (by rw [← hk b (h.agr.lt hv)]; exact hne)
  refine ⟨st.agr, hs', ws'.keep hs' (fun b o v hv ht => fr' b o v hv ?_) st.shape (fun mb hm hmp => hmp.step h.agr (st.sx (fun _ => False)) (fun h => h)), as'.keep hs' (fun b o v hv ht _ => fr' b o v hv ?_) st.shape (h.ah.mp.step h.agr (st.sx (fun _ => False)) (fun h => h)), fr' _ _ _ h.p0 ?_, h.mm, fun id hid hne => ?_, fun id hid hne => ?_, h.n3, h.n4⟩
  · rcases ht with ⟨a, _⟩ | ⟨a, _⟩ | a | a | a
    · rw [a]; simp
    all_goals omega
  · rcases ht with ⟨a, _⟩ | ⟨a, _⟩ | a | a | a
    · rw [a]; simp
    all_goals omega
  · rw [hs'.kP]; simp
  · obtain ⟨a, b, c⟩ := h.n1 id hid hne
    exact ⟨a, (hk _ (h.agr.lt (h.ah.g.g0 id hid))).trans b, c⟩
  · obtain ⟨a, b, c⟩ := h.n2 id hid hne
    exact ⟨a, (hk _ (h.agr.lt (h.ws.g.g1 id hid))).trans b, c⟩

/-- The law's own rows. -/
structure Rws (kd : Nat → Nat × Nat) (n A7 A8 A9 : Nat) (h10 h11 h12 h13 : Option (Nat × Nat)) (s : Sh) (nm : Nat → ByteArray) (i ng : Nat) (W : World) (M : Cel) : Prop where
  k7 : kd A7 = (8, 7)
  k8 : kd A8 = (8, 8)
  k9 : kd A9 = (8, 9)
  k10 : ∀ b, arrB h10 b → kd b = (8, 10)
  k11 : ∀ b, arrB h11 b → kd b = (8, 11)
  k12 : ∀ b, arrB h12 b → kd b = (8, 12)
  k13 : ∀ b, arrB h13 b → kd b = (8, 13)
  r7 : ∀ j, j < n → M A7 j = some (if j < i then ptr (s.C j) 0 else .pointer none)
  r8 : ∀ j, j < n → M A8 j = some (.int .i64 (((if j < i then s.gid j else 0) : Nat) : Int))
  r9 : ∀ j, j < n → M A9 j = some (.bool (decide (j < i) && (s.fi (s.gid j) == j)))
  w10 : Rw W M 9 h10 ng
  w11 : Rw W M 3 h11 ng
  w12 : Rw W M 4 h12 ng
  w13 : Rw W M 3 h13 ng
  e10 : ∀ b j, arrB h10 b → j < ng → M b j = some (.string (nm j))
  e11 : ∀ b j, arrB h11 b → j < ng → M b j = some (.int .i64 (s.sz j))
  e12 : ∀ b j, arrB h12 b → j < ng → M b j = some (.bool (s.kp j))
  e13 : ∀ b j, arrB h13 b → j < ng → M b j = some (.int .i64 (s.fi j))

structure LS (w0 : World) (n K A7 A8 A9 : Nat) (h10 h11 h12 h13 : Option (Nat × Nat)) (g : Gst) (i : Nat) (W : World) (M : Cel) : Prop where
  fs : Fas g i K W M
  bel : Below w0.heap.size w0 W
  mb : ∀ b o v, M b o = some v → w0.heap.size ≤ b
  b1 : w0.heap.size ≤ g.m1
  b2 : ∀ mb, g.m2 = some mb → w0.heap.size ≤ mb
  rw_ : Rws g.kd n A7 A8 A9 h10 h11 h12 h13 g.s g.nm i g.ng W M
  c1 : g.nu + g.kc = g.ng
  c2 : g.nr = cnt (want g.s) g.ng
  c3 : g.ng ≤ i
  c4 : g.nn ≤ g.ng
  c5 : ∀ j, j < i → g.nm (g.s.gid j) = ⟨#[]⟩ → g.s.fi (g.s.gid j) = j
  c6 : ∀ id, id < g.ng → (g.nm id).size ≤ maxLen

theorem Rw.keep {W w' : World} {M M' : Cel} {e : TypeId} {hd : Option (Nat × Nat)} {n : Nat} (h : Rw W M e hd n) (sh : ∀ k n t, Shp W k n t → Shp w' k n t) (fr : ∀ b o v, arrB hd b → M b o = some v → ∃ v', M' b o = some v') : Rw w' M' e hd n := by
  rcases hd with _ | ⟨A, cap⟩
  · exact h
  · refine ⟨h.1, h.2.1, sh _ _ _ h.2.2.1, fun k hk => ?_⟩
    obtain ⟨v, hv⟩ := h.2.2.2 k hk
    exact fr A k v ⟨cap, rfl⟩ hv
theorem Rw.arr_lt {W : World} {M : Cel} {e : TypeId} {hd : Option (Nat × Nat)} {n : Nat} (h : Rw W M e hd n) (hA : Agr W M) {b : Nat} (hb : arrB hd b) : b < W.heap.size := by
  obtain ⟨cap, rfl⟩ := hb
  obtain ⟨v, hv⟩ := h.2.2.2 0 h.2.1
  exact hA.lt hv
theorem Rw.some {W : World} {M : Cel} {e : TypeId} {hd : Option (Nat × Nat)} {n k : Nat} (h : Rw W M e hd n) (hk : k < n) : ∃ b, arrB hd b := by
  rcases hd with _ | ⟨A, cap⟩
  · have : n = 0 := h
    omega
  · exact ⟨A, cap, rfl⟩

theorem inf9 : (Yba.prog.info? 9).map (fun i => (i.zero, i.size, i.bytes)) = some (some (.string ⟨#[]⟩), 1, 16) := by kernel_rfl
theorem inf3 : (Yba.prog.info? 3).map (fun i => (i.zero, i.size, i.bytes)) = some (some (.int .i64 0), 1, 8) := by kernel_rfl
theorem inf4 : (Yba.prog.info? 4).map (fun i => (i.zero, i.size, i.bytes)) = some (some (.bool false), 1, 1) := by kernel_rfl
theorem inf81 : (Yba.prog.info? 81).map (fun i => (i.zero, i.size, i.bytes)) = some (some (.pointer none), 1, 8) := by kernel_rfl
theorem inf_of {t : TypeId} {z : Value} {s b : Nat} (h : (Yba.prog.info? t).map (fun i => (i.zero, i.size, i.bytes)) = some (some z, s, b)) : ∃ i, Yba.prog.info? t = some i ∧ i.zero = some z ∧ i.size = s ∧ i.bytes = b := by
  cases hi : Yba.prog.info? t with
  | none => rw [hi] at h; cases h
  | some i =>
    rw [hi] at h
    simp at h
    exact ⟨i, rfl, h.1, h.2.1, h.2.2⟩

/-- One append of one value, the block that holds it made just before. -/
theorem app1 {t e : TypeId} {z : Value} {bb : Nat} (ht : Yba.prog.underlying t = some (.slice e)) (hinf : (Yba.prog.info? e).map (fun i => (i.zero, i.size, i.bytes)) = some (some z, 1, bb)) (hbb : bb ≤ 64) (hzc : z.cells.size = 1) {W : World} {M : Cel} (hA : Agr W M) {hd : Option (Nat × Nat)} {n : Nat} (h : Rw W M e hd n) (hn : n ≤ 100000) (x : Value) (h1 : x.oneCell' = true) :
    ∃ A' cap' w' M', (Builtin.append_ #[t, t] t #[hdv hd n, .slice (some ⟨W.heap.size, 0, none⟩) 1 1]).run Yba.prog (W.alloc (.cells #[x] e)) = .ok (.slice (some ⟨A', 0, none⟩) (n + 1) cap') w' ∧ Stp W M w' M' ∧ Rw w' M' e (some (A', cap')) (n + 1) ∧
      (hd = some (A', cap') ∨ W.heap.size < A') ∧ A' < w'.heap.size ∧ (∀ b o v, M b o = some v → ¬ arrB hd b → M' b o = some v) ∧ M' A' n = some x ∧ (∀ b k v, arrB hd b → k < n → M b k = some v → M' A' k = some v) := by
  obtain ⟨i, hi, hz, hsz, hby⟩ := inf_of hinf
  have s1 := Stp.away hA #[x] e
  have r1 : Rw (W.alloc (.cells #[x] e)) M e hd n := h.keep s1.shape fun b o v _ hv => ⟨v, hv⟩
  obtain ⟨A', cap', w', M', hrun, st, rw', hA', fr, new, old⟩ := app_run e t t i z ht hi hz hsz (by omega) hzc _ M s1.agr hd n r1 hn W.heap.size x (by
    rw [World.cell?_alloc_at _ _ _ 0 rfl]
    rfl) h1
  have sz : (W.alloc (.cells #[x] e)).heap.size = W.heap.size + 1 := by simp
  refine ⟨A', cap', w', M', hrun, s1.trans st, rw', ?_, st.agr.lt new, fun b o v hv hna => (fr b o (by have := hA.lt hv; omega) hna).trans hv, new, fun b k v hb hk hv => (old b hb k hk).trans hv⟩
  rcases hA' with h' | h'
  · exact Or.inl h'
  · exact Or.inr (by omega)

theorem Rws.step {kd kd' : Nat → Nat × Nat} {n A7 A8 A9 : Nat} {h10 h11 h12 h13 : Option (Nat × Nat)} {s : Sh} {nm : Nat → ByteArray} {i ng : Nat} {W w' : World} {M M' : Cel} (h : Rws kd n A7 A8 A9 h10 h11 h12 h13 s nm i ng W M) (hA : Agr W M) (hn : 0 < n) (hk : ∀ b, b < W.heap.size → kd' b = kd b) (sh : ∀ k n t, Shp W k n t → Shp w' k n t)
    (fr : ∀ b o v, M b o = some v → (kd b).1 = 8 → M' b o = some v) : Rws kd' n A7 A8 A9 h10 h11 h12 h13 s nm i ng w' M' := by
  refine ⟨(hk _ (hA.lt (h.r7 0 hn))).trans h.k7, (hk _ (hA.lt (h.r8 0 hn))).trans h.k8, (hk _ (hA.lt (h.r9 0 hn))).trans h.k9, fun b hb => (hk b (h.w10.arr_lt hA hb)).trans (h.k10 b hb), fun b hb => (hk b (h.w11.arr_lt hA hb)).trans (h.k11 b hb), fun b hb => (hk b (h.w12.arr_lt hA hb)).trans (h.k12 b hb), fun b hb => (hk b (h.w13.arr_lt hA hb)).trans (h.k13 b hb),
    fun j hj => fr _ _ _ (h.r7 j hj) (by rw [h.k7]), fun j hj => fr _ _ _ (h.r8 j hj) (by rw [h.k8]), fun j hj => fr _ _ _ (h.r9 j hj) (by rw [h.k9]), h.w10.keep sh fun b o v hb hv => ⟨v, fr _ _ _ hv (by rw [h.k10 b hb])⟩, h.w11.keep sh fun b o v hb hv => ⟨v, fr _ _ _ hv (by rw [h.k11 b hb])⟩, h.w12.keep sh fun b o v hb hv => ⟨v, fr _ _ _ hv (by rw [h.k12 b hb])⟩, h.w13.keep sh fun b o v hb hv => ⟨v, fr _ _ _ hv (by rw [h.k13 b hb])⟩,
    fun b j hb hj => fr _ _ _ (h.e10 b j hb hj) (by rw [h.k10 b hb]), fun b j hb hj => fr _ _ _ (h.e11 b j hb hj) (by rw [h.k11 b hb]), fun b j hb hj => fr _ _ _ (h.e12 b j hb hj) (by rw [h.k12 b hb]), fun b j hb hj => fr _ _ _ (h.e13 b j hb hj) (by rw [h.k13 b hb])⟩

/-- Behind 'open': the state one further. -/
theorem ls_after {w0 : World} {n K A7 A8 A9 : Nat} {h10 h11 h12 h13 h10' h11' h12' h13' : Option (Nat × Nat)} {g g' : Gst} {i : Nat} {W v6 w' : World} {M M6 M' : Cel} {kd : Nat → Nat × Nat} (h : LS w0 n K A7 A8 A9 h10 h11 h12 h13 g i W M) (hn : 0 < n) (st : Stp W M v6 M6) (op : Opened { g with kd := kd } g' i K v6 M6 w' M')
    (rws : Rws kd n A7 A8 A9 h10' h11' h12' h13' g'.s g'.nm (i + 1) g'.ng v6 M6) (c1 : g'.nu + g'.kc = g'.ng) (c2 : g'.nr = cnt (want g'.s) g'.ng) (c3 : g'.ng ≤ i + 1) (c4 : g'.nn ≤ g'.ng) (c5 : ∀ j, j < i + 1 → g'.nm (g'.s.gid j) = ⟨#[]⟩ → g'.s.fi (g'.s.gid j) = j) (c6 : ∀ id, id < g'.ng → (g'.nm id).size ≤ maxLen) : LS w0 n K A7 A8 A9 h10' h11' h12' h13' g' (i + 1) w' M' := by
  have hsz : w0.heap.size ≤ W.heap.size := h.bel.size
  have hm1 : g'.m1 = g.m1 := op.m1
  refine ⟨op.fs, ⟨op.sx.os.trans (st.os.trans h.bel.os), op.sx.tape.trans (st.tape.trans h.bel.tape), op.sx.output.trans (st.output.trans h.bel.output), Nat.le_trans h.bel.size (Nat.le_trans st.size op.sx.size), fun k hk => ?_⟩, fun b o v hv => ?_, by rw [hm1]; exact h.b1, fun mb hm => ?_, rws.step st.agr hn op.kd op.sx.shape op.fr, c1, c2, c3, c4, c5, c6⟩
  · have n1 : ∀ o, M k o = none := fun o => by
      cases e : M k o with
      | none => rfl
      | some v => have := h.mb k o v e; omega
    have n6 : ∀ o, M6 k o = none := fun o => by
      cases e : M6 k o with
      | none => rfl
      | some v =>
        rcases st.fresh k o (by rw [e]; simp) with h' | h'
        · exact absurd (n1 o) h'
        · omega
    refine (op.sx.block k (by have := st.size; omega) ?_ n6).trans ((st.block k (by omega) n1).trans (h.bel.block k hk))
    rintro (e | e)
    · have := h.b1
      have e' : k = g.m1 := e
      omega
    · have := h.b2 k e
      omega
  · rcases op.sx.fresh b o (by rw [hv]; simp) with h' | h'
    · rcases st.fresh b o h' with h'' | h''
      · cases e : M b o with
        | none => exact absurd e h''
        | some u => exact h.mb b o u e
      · omega
    · have := st.size
      omega
  · rcases op.m2 mb hm with e | e
    · exact h.b2 mb e
    · have := st.size
      omega
end Go.Proofs.Ybulkdcoi
