import Derived.Test.YbulkdcoiLR
import Derived.Deep.CutRange
namespace Go.Proofs.Ybulkdcoi
open Go.RowKit
set_option linter.unusedVariables false

/-- What the checks behind 'open' read. -/
structure Chk (W : World) (P i kc nu : Nat) : Prop where
  q0 : W.cell? ⟨P, 0, none⟩ = some (.int .i64 ((i : Int) + 1))
  q2 : W.cell? ⟨P, 2, none⟩ = some (.int .i64 kc)
  q5 : W.cell? ⟨P, 5, none⟩ = some (.int .u64 ((i : Int) + 1))
  q4 : ∃ a c, W.cell? ⟨P, 4, none⟩ = some (.slice a nu c)

theorem LS.chk {w0 : World} {n K A7 A8 A9 : Nat} {h10 h11 h12 h13 : Option (Nat × Nat)} {g : Gst} {i : Nat} {W : World} {M : Cel} (h : LS w0 n K A7 A8 A9 h10 h11 h12 h13 g (i + 1) W M) : Chk W g.s.P i g.kc g.nu := by
  have e1 : ((i + 1 : Nat) : Int) = (i : Int) + 1 := by omega
  refine ⟨?_, (h.fs.agr _ _ _ h.fs.ah.p2).1, ?_, ?_⟩
  · rw [← e1]; exact (h.fs.agr _ _ _ h.fs.p0).1
  · rw [← e1]; exact (h.fs.agr _ _ _ h.fs.ah.p5).1
  · have := h.fs.ah.rk
    obtain ⟨a, c, e, _⟩ := hdv_slice this.rows
    exact ⟨a, c, by rw [← e]; exact (h.fs.agr _ _ _ this.hdr).1⟩

/-- What holds behind 'if id < 0 { .. }': the rows' headers, the group's number, and what 'open' will do. -/
def Pre (w0 : World) (n K i cb : Nat) (s10 s11 s12 s13 s14 s15 s19 : Value) (wz : World) : Prop :=
  ∃ (h10 h11 h12 h13 : Option (Nat × Nat)) (a10 : Option Addr) (c10 A11 d11 : Nat) (a12 : Option Addr) (c12 : Nat) (a13 : Option Addr) (c13 ng kc nn id sz : Nat),
    s10 = .slice a10 ng c10 ∧ s11 = .slice (some ⟨A11, 0, none⟩) ng d11 ∧ s12 = .slice a12 ng c12 ∧ s13 = .slice a13 ng c13 ∧ s14 = .int .i64 kc ∧ s15 = .int .i64 nn ∧ s19 = .int .i64 id ∧
    hdv h10 ng = .slice a10 ng c10 ∧ hdv h11 ng = .slice (some ⟨A11, 0, none⟩) ng d11 ∧ hdv h12 ng = .slice a12 ng c12 ∧ hdv h13 ng = .slice a13 ng c13 ∧
    id < ng ∧ ng ≤ 401 ∧ kc ≤ 401 ∧ sz ≤ 400 ∧ wz.cell? ⟨A11, id, none⟩ = some (.int .i64 sz) ∧ wz.frozen? ⟨A11, id, none⟩ = false ∧ (∃ v, wz.cell? ⟨w0.heap.size + 3, i, none⟩ = some v) ∧ wz.frozen? ⟨w0.heap.size + 3, i, none⟩ = false ∧ w0.heap.size + 3 ≠ A11 ∧
    Calls Yba.prog 11 #[ptr (w0.heap.size + 1) 0, ptr cb 0] ((wz.setCell ⟨A11, id, none⟩ (.int .i64 ((sz : Int) + 1))).setCell ⟨w0.heap.size + 3, i, none⟩ (.int .i64 id)) fun e w' => e = .returned (.tuple #[]) ∧ ∃ nu : Nat, (nu : Int) = (ng : Int) - kc ∧ Chk w' (w0.heap.size + 1) i kc nu ∧
      Hd (∃ g' M', LS w0 n K (w0.heap.size + 2) (w0.heap.size + 3) (w0.heap.size + 4) h10 h11 h12 h13 g' (i + 1) w' M' ∧ g'.s.P = w0.heap.size + 1 ∧ g'.ng = ng ∧ g'.kc = kc ∧ g'.nn = nn)

theorem pre_new {w0 : World} {n K A7 A8 A9 : Nat} {A10 d10 A11 d11 A12 d12 A13 d13 : Nat} {g : Gst} {i : Nat} {v4 v5 : World} {cb kc nn : Nat} {st : ByteArray} {k : Bool} (hA8 : A8 = w0.heap.size + 3) (hA7 : A7 = w0.heap.size + 2) (hA9 : A9 = w0.heap.size + 4) (hP : g.s.P = w0.heap.size + 1) (hng : g.ng ≤ 400) (hkc0 : g.kc ≤ g.ng) (hv5 : v5 = v4.setCell ⟨A9, i, none⟩ (.bool true))
    (k11 : v4.cell? ⟨A11, g.ng, none⟩ = some (.int .i64 0)) (y11 : v4.frozen? ⟨A11, g.ng, none⟩ = false) (k8 : ∃ v, v4.cell? ⟨A8, i, none⟩ = some v) (y8 : v4.frozen? ⟨A8, i, none⟩ = false) (n911 : A9 ≠ A11) (n89 : A8 ≠ A9) (n811 : A8 ≠ A11) (hkc : kc = if k then g.kc + 1 else g.kc) (hnn : nn = if st = ⟨#[]⟩ then g.nn else g.nn + 1)
    (hop : Calls Yba.prog 11 #[ptr g.s.P 0, ptr cb 0] (((v4.setCell ⟨A9, i, none⟩ (.bool true)).setCell ⟨A11, g.ng, none⟩ (.int .i64 1)).setCell ⟨A8, i, none⟩ (.int .i64 g.ng)) fun e w' => e = .returned (.tuple #[]) ∧
      ∃ g' M', LS w0 n K A7 A8 A9 (some (A10, d10)) (some (A11, d11)) (some (A12, d12)) (some (A13, d13)) g' (i + 1) w' M' ∧ g'.s.P = g.s.P ∧ g'.ng = g.ng + 1 ∧ g'.kc = (if k then g.kc + 1 else g.kc) ∧ g'.nn = (if st = ⟨#[]⟩ then g.nn else g.nn + 1)) :
    Pre w0 n K i cb (.slice (some ⟨A10, 0, none⟩) (g.ng + 1) d10) (.slice (some ⟨A11, 0, none⟩) (g.ng + 1) d11) (.slice (some ⟨A12, 0, none⟩) (g.ng + 1) d12) (.slice (some ⟨A13, 0, none⟩) (g.ng + 1) d13) (.int .i64 kc) (.int .i64 nn) (.int .i64 g.ng) v5 := by
  subst hA7 hA8 hA9 hv5
  refine ⟨some (A10, d10), some (A11, d11), some (A12, d12), some (A13, d13), _, _, A11, d11, _, _, _, _, g.ng + 1, kc, nn, g.ng, 0, rfl, rfl, rfl, rfl, rfl, rfl, rfl, rfl, rfl, rfl, rfl, by omega, by omega, ?_, by omega, ?_, ?_, ?_, ?_, n811, ?_⟩
  · rw [hkc]; split <;> omega
  · rw [World.cell?_setCell_other _ _ _ _ (by intro e; cases e; exact n911 rfl)]; exact k11
  · simpa using y11
  · obtain ⟨v, hv⟩ := k8
    exact ⟨v, by rw [World.cell?_setCell_other _ _ _ _ (by intro e; injection e with e1; omega)]; exact hv⟩
  · simpa using y8
  · rw [hP] at hop
    refine hop.mono fun e w' ⟨he, g', M', hls', hP', hng', hkc', hnn'⟩ => ⟨he, g'.nu, ?_, ?_, ⟨⟨g', M', hls', hP', hng', hkc'.trans hkc.symm, hnn'.trans hnn.symm⟩⟩⟩
    · have := hls'.c1
      have e2 : g'.kc = kc := hkc'.trans hkc.symm
      omega
    · have hch := hls'.chk
      rw [hP', hkc', ← hkc] at hch
      exact hch

theorem pre_old {w0 : World} {n K A7 A8 A9 : Nat} {h10 h11 h12 h13 : Option (Nat × Nat)} {g : Gst} {i : Nat} {w1 : World} {cb id : Nat} {a10 a11 a12 a13 : Option Addr} {c10 c11 c12 c13 : Nat} (hA8 : A8 = w0.heap.size + 3) (hA7 : A7 = w0.heap.size + 2) (hA9 : A9 = w0.heap.size + 4) (hP : g.s.P = w0.heap.size + 1) (hng : g.ng ≤ 400) (hkc0 : g.kc ≤ g.ng) (hid : id < g.ng)
    (e10 : hdv h10 g.ng = .slice a10 g.ng c10) (e11 : hdv h11 g.ng = .slice a11 g.ng c11) (e12 : hdv h12 g.ng = .slice a12 g.ng c12) (e13 : hdv h13 g.ng = .slice a13 g.ng c13) (h : LOld w0 n K A7 A8 A9 h10 h11 h12 h13 g i w1 cb id) :
    Pre w0 n K i cb (.slice a10 g.ng c10) (.slice a11 g.ng c11) (.slice a12 g.ng c12) (.slice a13 g.ng c13) (.int .i64 g.kc) (.int .i64 g.nn) (.int .i64 id) w1 := by
  subst hA7 hA8 hA9
  obtain ⟨A11, d11, hh, k11, y11, k8, y8, n811, hsz, hop⟩ := h
  rw [hh] at e11
  have ee : (Value.slice a11 g.ng c11) = .slice (some ⟨A11, 0, none⟩) g.ng d11 := e11.symm
  refine ⟨h10, h11, h12, h13, a10, c10, A11, d11, a12, c12, a13, c13, g.ng, g.kc, g.nn, id, g.s.sz id, rfl, ee, rfl, rfl, rfl, rfl, rfl, e10, by rw [hh]; rfl, e12, e13, hid, by omega, by omega, hsz, k11, y11, k8, y8, n811, ?_⟩
  rw [hP] at hop
  refine hop.mono fun e w' ⟨he, g', M', hls', hP', hng', hkc', hnn'⟩ => ⟨he, g'.nu, ?_, ?_, ⟨⟨g', M', hls', hP', hng', hkc', hnn'⟩⟩⟩
  · have := hls'.c1
    omega
  · have hch := hls'.chk
    rw [hP', hkc'] at hch
    exact hch

/-- The first loop's relation. -/
def L1 (w0 : World) (n K : Nat) (s10 s11 s12 s13 s14 s15 s16 : Value) (wr : World) (k : Nat) : Prop :=
  ∃ h10 h11 h12 h13 g i M, s10 = hdv h10 g.ng ∧ s11 = hdv h11 g.ng ∧ s12 = hdv h12 g.ng ∧ s13 = hdv h13 g.ng ∧ s14 = .int .i64 g.kc ∧ s15 = .int .i64 g.nn ∧ s16 = .int .i64 (i : Nat) ∧ i ≤ n ∧ k = n - i ∧ g.s.P = w0.heap.size + 1 ∧ LS w0 n K (w0.heap.size + 2) (w0.heap.size + 3) (w0.heap.size + 4) h10 h11 h12 h13 g i wr M

theorem bytes_ne {a b : ByteArray} (h : ¬ a = b) : (a.toList == b.toList) = false := by
  rw [ByteArray.toList_eq, ByteArray.toList_eq]
  exact beq_eq_false_iff_ne.2 (ne_toList h)

theorem nmOf_ne (x : Int) (st : ByteArray) (h : nmOf x = st) (hne : ¬ st = ⟨#[]⟩) : st.toList.isEmpty = false ∧ st.size ≤ maxLen := by
  have hh : st = ⟨#[97]⟩ ∨ st = ⟨#[98]⟩ ∨ st = ⟨#[99]⟩ ∨ st = ⟨#[100]⟩ := by
    rw [← h] at hne ⊢
    unfold nmOf at *
    split
    · simp
    · split
      · simp
      · split
        · simp
        · split
          · simp
          · rename_i a b c d
            simp [a, b, c, d] at hne
  rcases hh with rfl | rfl | rfl | rfl <;> exact ⟨by simp, by unfold maxLen; decide⟩

theorem quiet_add {P : Program} {f : FuncId} {args : Array Value} {w : World} {q n : Nat} {v : Value} (h : Calls P f args (w.drewN (q + n)) fun e w' => e = .returned v ∧ w' = w.drewN (q + n)) : Calls P f args (w.drewN (q + n)) fun e w'' => e = .returned v ∧ ∃ m, w'' = w.drewN (q + m) :=
  h.mono fun _ _ ⟨he, hm⟩ => ⟨he, n, hm⟩

set_option maxRecDepth 100000 in
set_option maxHeartbeats 8000000 in
theorem law_main (a0 : Int) (a1 : Option Addr) (A B n cap : Nat) (z : Nat → Int) (w : World) (hn : n ≤ 400) (hs : 0 < n → a1 = some ⟨A, B, none⟩) (hz : ∀ j, j < n → w.cell? ⟨A, B + j, none⟩ = some (.int .u8 (z j))) (hz2 : ∀ j, 0 ≤ z j ∧ z j ≤ 255) (ha0 : -9223372036854775808 ≤ a0) (ha1 : a0 ≤ 9223372036854775807) :
    Calls Yba.prog 5 #[.int .i64 a0, .slice a1 n cap] w fun e w' => e = .returned (.bool true) ∧ Below w.heap.size w w' := by
  obtain ⟨w1, w2, w3, M0, m1, m2, m3, ls0⟩ := ls_init w n a0.toNat hn
  have LS0 : Hd (LS w n a0.toNat (w.heap.size + 2) (w.heap.size + 3) (w.heap.size + 4) none none none none (g0 w) 0 w3 M0) := ⟨ls0⟩
  clear ls0
  have hnz : ¬ ((n : Int) > 400) := by omega
  go_enter Yba.func5, Yba.ntmps5
  go_wp2_with (first | (go_at_call 9; refine (new_walk _ _).mono ?_; rintro e w' ⟨rfl, rfl⟩))
  go_loopg [10, 11, 12, 13, 14, 15, 16] n (fun k s10 s11 s12 s13 s14 s15 s16 wr => L1 w n a0.toNat s10 s11 s12 s13 s14 s15 s16 wr k)
  case atStart => exact ⟨none, none, none, none, g0 w, 0, M0, rfl, rfl, rfl, rfl, rfl, rfl, rfl, Nat.zero_le _, rfl, rfl, LS0.out⟩
  case round =>
    obtain ⟨h10, h11, h12, h13, g, i, M, rfl, rfl, rfl, rfl, rfl, rfl, rfl, hle, hk, hP, hls⟩ := hrel
    obtain ⟨a10, c10, e10, p10⟩ := hdv_slice hls.rw_.w10
    obtain ⟨a11, c11, e11, p11⟩ := hdv_slice hls.rw_.w11
    obtain ⟨a12, c12, e12, p12⟩ := hdv_slice hls.rw_.w12
    obtain ⟨a13, c13, e13, p13⟩ := hdv_slice hls.rw_.w13
    clear LS0 m1 m2 m3
    by_cases hin : i < n
    · as_aux_lemma =>
      have hinz : (i : Int) < (n : Int) := by omega
      obtain rfl := hs (by omega)
      have hcell : wr.cell? ⟨A, B + i, none⟩ = some (.int .u8 (z i)) := by
        rw [← hz i hin]
        exact World.cell?_of_block (hls.bel.block A (World.block_lt_of_cell? _ _ (hz i hin)))
      have hnm := fun W => name_walk (z i) W (hz2 i).1 (hz2 i).2
      generalize hst : nmOf (z i) = st at *
      have hc0 := hls.c1
      have hng : g.ng ≤ 400 := by have := hls.c3; omega
      have hi8 : i ≤ 400 := by omega
      have hnn8 : g.nn ≤ 400 := by have := hls.c4; omega
      obtain ⟨sc, fc, cc, l7⟩ := ls_conn hls hin st
      have k7 := fc (w.heap.size + 2) i
      have k7c : (wr.alloc (.cells (connCells st) 116)).cell? ⟨w.heap.size + 2, i, none⟩ = some (.pointer none) := by
        have := (hls.fs.agr _ _ _ (hls.rw_.r7 i hin)).1
        rw [if_neg (by omega)] at this
        exact cell?_alloc_old _ this
      have k7z : (wr.alloc (.cells (connCells st) 116)).frozen? ⟨w.heap.size + 2, i, none⟩ = false := by
        rw [World.frozen?_alloc_old _ _ _ (Nat.ne_of_lt l7)]
        exact (hls.fs.agr _ _ _ (hls.rw_.r7 i hin)).2
      have HL : Hd (LS w n a0.toNat (w.heap.size + 2) (w.heap.size + 3) (w.heap.size + 4) h10 h11 h12 h13 g i wr M) := ⟨hls⟩
      have hAc : ∀ b o v, M b o = some v → b ≠ w.heap.size + 2 → ((wr.alloc (.cells (connCells st) 116)).setCell ⟨w.heap.size + 2, i, none⟩ (ptr wr.heap.size 0)).cell? ⟨b, o, none⟩ = some v := fun b o v hv hb => (sc.agr _ _ _ (fc b o v hv (fun h => hb h.1))).1
      have hNm : Hd (∀ b j, arrB h10 b → j < g.ng → ((wr.alloc (.cells (connCells st) 116)).setCell ⟨w.heap.size + 2, i, none⟩ (ptr wr.heap.size 0)).cell? ⟨b, j, none⟩ = some (.string (g.nm j))) := ⟨fun b j hb hj => hAc b j _ (hls.rw_.e10 b j hb hj) (fun e => by
        have := hls.rw_.k10 b hb
        rw [e, hls.rw_.k7] at this
        simp at this)⟩
      have hAr : Hd (∀ j, j < g.ng → ∃ b, arrB h10 b) := ⟨fun j hj => hls.rw_.w10.some hj⟩
      rw [e10, e11, e12, e13]
      clear hls sc fc cc k7 hAc l7
      go_upto_region 20 with (first | (go_at_call 10; refine (hnm _).mono ?_; rintro e w' ⟨rfl, hwe⟩; subst hwe))
      have hN : Hd ((st = ⟨#[]⟩ ∨ (st.toList.isEmpty = false ∧ st.size ≤ maxLen ∧ ∀ id, id < g.ng → g.nm id ≠ st)) → LNew w n a0.toNat (w.heap.size + 2) (w.heap.size + 3) (w.heap.size + 4) h10 h11 h12 h13 g i ((w'.alloc (.cells (connCells st) 116)).setCell ⟨w.heap.size + 2, i, none⟩ (ptr w'.heap.size 0)) w'.heap.size st (decide (g.kc < a0.toNat))) := ⟨fun hh => ls_new HL.out hin hn st hh _ rfl⟩
      have hO : Hd (∀ id, id < g.ng → g.nm id = st → st.toList.isEmpty = false → st.size ≤ maxLen → LOld w n a0.toNat (w.heap.size + 2) (w.heap.size + 3) (w.heap.size + 4) h10 h11 h12 h13 g i ((w'.alloc (.cells (connCells st) 116)).setCell ⟨w.heap.size + 2, i, none⟩ (ptr w'.heap.size 0)) w'.heap.size id) := ⟨fun id h1 h2 h3 h4 => ls_old HL.out hin hn st id h1 h2 h3 h4⟩
      clear k7c k7z hcell hnm HL
      generalize hcb : w'.heap.size = cb at *
      generalize ((w'.alloc (.cells (connCells st) 116)).setCell ⟨w.heap.size + 2, i, none⟩ (ptr cb 0)) = wx1 at *
      as_aux_lemma =>
        go_upto_region 21 with fail
        go_cut [62] from 44 to 154 (fun s62 wc => wc = wx1 ∧ ((s62 = .bool false ∧ st = ⟨#[]⟩) ∨ (s62 = .bool true ∧ ¬ st = ⟨#[]⟩)))
        case first => as_aux_lemma =>
          by_cases hse : st = ⟨#[]⟩
          · have hbe : st.toList.isEmpty = true := by rw [hse]; exact emp_toList
            go_wp2_with fail
            go_meet
            exact ⟨rfl, Or.inl ⟨rfl, hse⟩⟩
          · have hbe : st.toList.isEmpty = false := (nmOf_ne (z i) st hst hse).1
            go_wp2_with fail
            go_meet
            exact ⟨rfl, Or.inr ⟨rfl, hse⟩⟩
        obtain ⟨rfl, hs62⟩ := hcut
        as_aux_lemma =>
          go_upto_if 62 with fail
          go_cut [19] from 44 to 154 (fun s19 wy => wy = wc ∧ ((s19 = .int .i64 (-1) ∧ (st = ⟨#[]⟩ ∨ (st.toList.isEmpty = false ∧ st.size ≤ maxLen ∧ ∀ id, id < g.ng → g.nm id ≠ st))) ∨ ∃ id : Nat, id < g.ng ∧ s19 = .int .i64 id ∧ g.nm id = st ∧ st.toList.isEmpty = false ∧ st.size ≤ maxLen))
          case first => as_aux_lemma =>
            rcases hs62 with ⟨rfl, hse⟩ | ⟨rfl, hse⟩
            · go_wp2_with fail
              go_meet
              exact ⟨rfl, Or.inl ⟨rfl, Or.inl hse⟩⟩
            · have hs2 : st.toList.isEmpty = false ∧ st.size ≤ maxLen := nmOf_ne (z i) st hst hse
              go_wp2_with fail
              go_loopg [19, 65] g.ng (fun k s19 s65 wx => ∃ j : Nat, s19 = .int .i64 (-1) ∧ s65 = .int .i64 j ∧ j ≤ g.ng ∧ k = g.ng - j ∧ wx = wc ∧ ∀ d, d < j → g.nm d ≠ st)
              case atStart => exact ⟨0, rfl, rfl, Nat.zero_le _, rfl, rfl, fun d hd => absurd hd (Nat.not_lt_zero d)⟩
              case round =>
                obtain ⟨j, rfl, rfl, hj, hkk, hwr, hd⟩ := hrel
                subst hwr
                by_cases hjn : j < g.ng
                · have hjz : (j : Int) < (g.ng : Int) := by omega
                  obtain ⟨b, hb⟩ : ∃ b, arrB h10 b := hAr.out j hjn
                  have hcl := hNm.out b j hb hjn
                  obtain rfl := p10 b hb
                  by_cases he : g.nm j = st
                  · rw [he] at hcl
                    go_wp2_with fail
                    go_meet
                    exact ⟨rfl, Or.inr ⟨j, hjn, rfl, he, hs2⟩⟩
                  · have he2 : ((g.nm j).toList == st.toList) = false := bytes_ne he
                    go_wp2_with fail
                    go_roundg (g.ng - (j + 1))
                    case measure => omega
                    case rel =>
                      refine ⟨j + 1, rfl, by go_num, by omega, rfl, rfl, fun d hd' => ?_⟩
                      by_cases e : d = j
                      · rw [e]; exact he
                      · exact hd d (by omega)
                · have hjz : ¬ ((j : Int) < (g.ng : Int)) := by omega
                  go_wp2_with fail
                  go_meet
                  exact ⟨rfl, Or.inl ⟨rfl, Or.inr ⟨hs2.1, hs2.2, fun d hd' => hd d (by omega)⟩⟩⟩
          obtain ⟨rfl, hcase⟩ := hcut
          as_aux_lemma =>
            go_upto_region 28 with fail
            go_cut [19, 77] from 44 to 154 (fun s19 s77 wy => wy = wc ∧ ((s19 = .int .i64 (-1) ∧ s77 = .bool true ∧ (st = ⟨#[]⟩ ∨ (st.toList.isEmpty = false ∧ st.size ≤ maxLen ∧ ∀ id, id < g.ng → g.nm id ≠ st))) ∨ ∃ id : Nat, id < g.ng ∧ s19 = .int .i64 id ∧ s77 = .bool false ∧ g.nm id = st ∧ st.toList.isEmpty = false ∧ st.size ≤ maxLen))
            case first => as_aux_lemma =>
              rcases hcase with ⟨rfl, hnewc⟩ | ⟨id, hid, rfl, hnmi, hse, hse2⟩
              · go_wp2_with fail
                go_meet
                exact ⟨rfl, Or.inl ⟨rfl, rfl, hnewc⟩⟩
              · have hidz : ¬ ((id : Int) < 0) := by omega
                go_wp2_with fail
                go_meet
                exact ⟨rfl, Or.inr ⟨id, hid, rfl, rfl, hnmi, hse, hse2⟩⟩
            clear hcase
            obtain ⟨rfl, hcase⟩ := hcut
            as_aux_lemma =>
              go_upto_if 77 with fail
              go_cut [10, 11, 12, 13, 14, 15, 19] from 44 to 154 (fun s10 s11 s12 s13 s14 s15 s19 wz => Pre w n a0.toNat i cb s10 s11 s12 s13 s14 s15 s19 wz)
              case first => as_aux_lemma =>
                rcases hcase with ⟨rfl, rfl, hnewc⟩ | ⟨id, hid, rfl, rfl, hnmi, hse, hse2⟩
                · as_aux_lemma =>
                  have hL := hN.out hnewc
                  have hdz : decide ((g.kc : Int) < a0) = decide (g.kc < a0.toNat) := by
                    by_cases hkk : (g.kc : Int) < a0
                    · rw [decide_eq_true hkk, decide_eq_true (by omega)]
                    · rw [decide_eq_false hkk, decide_eq_false (by omega)]
                  generalize decide (g.kc < a0.toNat) = k at hL hdz
                  obtain ⟨A10, d10, v1, A11, d11, v2, A12, d12, v3, A13, d13, v4, run1, run2, run3, run4, ⟨x9, k9⟩, y9, k11, y11, ⟨x8, k8⟩, y8, n911, n89, n811, hop⟩ := hL
                  obtain ⟨kc', hkc'⟩ : ∃ kc' : Nat, kc' = if k then g.kc + 1 else g.kc := ⟨_, rfl⟩
                  have HP : Hd (∀ v5 nn, v5 = v4.setCell ⟨w.heap.size + 4, i, none⟩ (.bool true) → nn = (if st = ⟨#[]⟩ then g.nn else g.nn + 1) → Pre w n a0.toNat i cb (.slice (some ⟨A10, 0, none⟩) (g.ng + 1) d10) (.slice (some ⟨A11, 0, none⟩) (g.ng + 1) d11) (.slice (some ⟨A12, 0, none⟩) (g.ng + 1) d12) (.slice (some ⟨A13, 0, none⟩) (g.ng + 1) d13) (.int .i64 (kc' : Nat)) (.int .i64 (nn : Nat)) (.int .i64 g.ng) v5) := ⟨fun v5 nn hv5 hnn => pre_new (v5 := v5) rfl rfl rfl hP hng (by omega) hv5 k11 y11 ⟨x8, k8⟩ y8 n911 n89 n811 hkc' hnn hop⟩
                  have HK : Hd (kc' = if k then g.kc + 1 else g.kc) := ⟨hkc'⟩
                  clear hkc' hop k11 y11 k8 y8
                  rw [e10] at run1
                  rw [e11] at run2
                  rw [e12] at run3
                  rw [e13] at run4
                  clear hN hO hNm
                  go_upto_if 90 with (first
                    | (at_builtin; refine wpList_app rfl _ _ 79 rfl _ _ rfl rfl _ v1 run1 ?_)
                    | (at_builtin; refine wpList_app rfl _ _ 77 rfl _ _ rfl rfl _ v2 run2 ?_))
                  try rw [hdz]
                  go_cut [14] from 44 to 154 (fun s14 wx => s14 = .int .i64 (kc' : Nat) ∧ wx = v2)
                  case first => as_aux_lemma =>
                    have hkc' := HK.out
                    cases k
                    · have hkz : (kc' : Int) = (g.kc : Int) := by simp at hkc'; omega
                      have hkk : ¬ ((g.kc : Int) < a0) := of_decide_eq_false hdz
                      clear hkc' hdz
                      go_wp2_with fail
                      go_meet
                      exact ⟨by rw [hkz], rfl⟩
                    · have hkz : (kc' : Int) = (g.kc : Int) + 1 := by simp at hkc'; omega
                      have hkk : (g.kc : Int) < a0 := of_decide_eq_true hdz
                      clear hkc' hdz
                      go_wp2_with fail
                      go_meet
                      exact ⟨by rw [hkz], rfl⟩
                  obtain ⟨rfl, rfl⟩ := hcut
                  clear HK hdz
                  as_aux_lemma =>
                    go_upto_region 38 with (first
                      | (at_builtin; refine wpList_app rfl _ _ 78 rfl _ _ rfl rfl _ v3 run3 ?_)
                      | (at_builtin; refine wpList_app rfl _ _ 77 rfl _ _ rfl rfl _ v4 run4 ?_))
                    by_cases hse : st = ⟨#[]⟩
                    · as_aux_lemma =>
                      have hbe : st.toList.isEmpty = true := by rw [hse]; exact emp_toList
                      go_wp2_with fail
                      go_meet
                      have hp := HP.out _ g.nn rfl (by rw [if_pos hse])
                      simpa using hp
                    · as_aux_lemma =>
                      have hbe : st.toList.isEmpty = false := (nmOf_ne (z i) st hst hse).1
                      go_wp2_with fail
                      go_meet
                      have hp := HP.out _ (g.nn + 1) rfl (by rw [if_neg hse])
                      simpa using hp
                · as_aux_lemma =>
                  have hp := pre_old rfl rfl rfl hP hng (by omega) hid e10 e11 e12 e13 (hO.out id hid hnmi hse hse2)
                  have HP : Hd (Pre w n a0.toNat i cb (.slice a10 g.ng c10) (.slice a11 g.ng c11) (.slice a12 g.ng c12) (.slice a13 g.ng c13) (.int .i64 g.kc) (.int .i64 g.nn) (.int .i64 id) wc) := ⟨hp⟩
                  clear hp hN hO hNm
                  go_wp2_with fail
                  go_meet
                  exact HP.out
              clear hcase hN hO hNm hAr
              clear e10 e11 e12 e13 p10 p11 p12 p13
              obtain ⟨h10', h11', h12', h13', a10', c10', A11', d11', a12', c12', a13', c13', ng', kc', nn', id', sz', rfl, rfl, rfl, rfl, rfl, rfl, rfl, e10, e11, e12, e13, hid', hng', hkc', hsz', k11, y11, ⟨x8, k8⟩, y8, n811, hop⟩ := hcut
              have n118 : A11' ≠ w.heap.size + 3 := fun e => n811 e.symm
              have hidz : (id' : Int) < (ng' : Int) := by omega
              as_aux_lemma =>
                go_wp2_with (first
                  | (go_at_call 11; refine hop.mono ?_; rintro e wf ⟨rfl, nu, hnu, ⟨q0, q2, q5, ⟨a4, d4, q4⟩⟩, hfin⟩; clear hop)
                  | (go_at_call 12; refine (age_len _ _ _ _ _ _ q4).mono ?_; rintro e wg ⟨rfl, hwg⟩; subst hwg))
                obtain ⟨g', M', hls', hP', hng'', hkc'', hnn''⟩ := hfin.out
                go_roundg (n - (i + 1))
                case measure => omega
                case rel =>
                  refine ⟨h10', h11', h12', h13', g', i + 1, M', ?_, ?_, ?_, ?_, ?_, ?_, by go_num, by omega, rfl, hP', hls'⟩
                  · rw [hng'']; exact e10.symm
                  · rw [hng'']; exact e11.symm
                  · rw [hng'']; exact e12.symm
                  · rw [hng'']; exact e13.symm
                  · rw [hkc'']
                  · rw [hnn'']
    · as_aux_lemma =>
      have hie : i = n := by omega
      have hinz : ¬ ((i : Int) < (n : Int)) := by omega
      subst hie
      have hl1 : ∀ ty, (Builtin.len_ #[118] ty #[.map (some g.m1)]).run Yba.prog wr = .ok (.int .i64 g.nn) wr := fun ty => hls.fs.ah.mp.len Yba.underlying118 ty
      have hl2 : ∀ ty, (Builtin.len_ #[122] ty #[.map g.m2]).run Yba.prog wr = .ok (.int .i64 g.nn) wr := fun ty => by
        cases hm : g.m2 with
        | none =>
          rw [(hls.fs.ws.mn hm).1]
          simp [Builtin.len_, run_underlying Yba.underlying122, goInt]
        | some mb => exact (hls.fs.ws.ms mb hm).len Yba.underlying122 ty
      have k3 : wr.cell? ⟨w.heap.size + 1, 3, none⟩ = some (.map (some g.m1)) := by rw [← hP]; exact (hls.fs.agr _ _ _ hls.fs.ah.p3).1
      have k6 : wr.cell? ⟨w.heap.size + 1, 6, none⟩ = some (.map g.m2) := by rw [← hP]; exact (hls.fs.agr _ _ _ hls.fs.ws.p6).1
      have k8 : wr.cell? ⟨w.heap.size + 1, 8, none⟩ = some (.int .u64 i) := by rw [← hP]; exact (hls.fs.agr _ _ _ hls.fs.ws.p8).1
      obtain ⟨a7, d7, e7, _⟩ := hdv_slice hls.fs.ws.rk.rows
      have k7 : wr.cell? ⟨w.heap.size + 1, 7, none⟩ = some (.slice a7 g.nr d7) := by rw [← hP, ← e7]; exact (hls.fs.agr _ _ _ hls.fs.ws.rk.hdr).1
      have hng : g.ng ≤ 400 := by have := hls.c3; omega
      have hnn8 : g.nn ≤ 400 := by have := hls.c4; omega
      have hnr : (g.nr : Int) = (cnt (want g.s) g.ng : Int) := by rw [hls.c2]
      have hcl := cnt_le (f := want g.s)
      have HL : Hd (LS w i a0.toNat (w.heap.size + 2) (w.heap.size + 3) (w.heap.size + 4) h10 h11 h12 h13 g i wr M) := ⟨hls⟩
      have c11' : ∀ j, j < g.ng → ∃ b, a11 = some ⟨b, 0, none⟩ ∧ wr.cell? ⟨b, j, none⟩ = some (.int .i64 (g.s.sz j)) := fun j hj => by
        obtain ⟨b, hb⟩ := hls.rw_.w11.some hj
        exact ⟨b, p11 b hb, (hls.fs.agr _ _ _ (hls.rw_.e11 b j hb hj)).1⟩
      have c12' : ∀ j, j < g.ng → ∃ b, a12 = some ⟨b, 0, none⟩ ∧ wr.cell? ⟨b, j, none⟩ = some (.bool (g.s.kp j)) := fun j hj => by
        obtain ⟨b, hb⟩ := hls.rw_.w12.some hj
        exact ⟨b, p12 b hb, (hls.fs.agr _ _ _ (hls.rw_.e12 b j hb hj)).1⟩
      have hsz : ∀ j, j < g.ng → 1 ≤ g.s.sz j ∧ g.s.sz j ≤ i := fun j hj => hls.fs.sh.sz1 j hj
      rw [e10, e11, e12, e13]
      clear hls
      go_wp2_with fail
      go_loopg [22, 184] g.ng (fun k s22 s184 wx => ∃ j : Nat, s22 = .int .i64 (cnt (want g.s) j : Nat) ∧ s184 = .int .i64 j ∧ j ≤ g.ng ∧ k = g.ng - j ∧ wx = wr)
      case atStart => exact ⟨0, rfl, rfl, Nat.zero_le _, rfl, rfl⟩
      case round =>
        obtain ⟨j, rfl, rfl, hj, hkk, hwx⟩ := hrel
        subst hwx
        have hcj := hcl j
        by_cases hjn : j < g.ng
        · as_aux_lemma =>
          have hjz : (j : Int) < (g.ng : Int) := by omega
          obtain ⟨b11, ea11, q11⟩ := c11' j hjn
          obtain ⟨b12, ea12, q12⟩ := c12' j hjn
          subst ea11 ea12
          have hs1 := hsz j hjn
          have hstep : cnt (want g.s) (j + 1) = cnt (want g.s) j + (if 0 < want g.s j then 1 else 0) := rfl
          clear c11' c12' hcl
          cases hkp : g.s.kp j with
          | true =>
            rw [hkp] at q12
            have hwj : want g.s j = g.s.sz j - 1 := by simp [want, hkp]
            by_cases hw : 1 < g.s.sz j
            · have hwz : (0 : Int) < (g.s.sz j : Int) - 1 := by omega
              rw [hwj, if_pos (by omega)] at hstep
              go_wp2_with fail
              go_roundg (g.ng - (j + 1))
              case measure => omega
              case rel => exact ⟨j + 1, by rw [hstep]; go_num, by go_num, by omega, rfl, rfl⟩
            · have hwz : ¬ ((0 : Int) < (g.s.sz j : Int) - 1) := by omega
              rw [hwj, if_neg (by omega)] at hstep
              go_wp2_with fail
              go_roundg (g.ng - (j + 1))
              case measure => omega
              case rel => exact ⟨j + 1, by rw [hstep]; rfl, by go_num, by omega, rfl, rfl⟩
          | false =>
            rw [hkp] at q12
            have hwj : want g.s j = g.s.sz j := by simp [want, hkp]
            have hwz : (0 : Int) < (g.s.sz j : Int) := by omega
            rw [hwj, if_pos (by omega)] at hstep
            go_wp2_with fail
            go_roundg (g.ng - (j + 1))
            case measure => omega
            case rel => exact ⟨j + 1, by rw [hstep]; go_num, by go_num, by omega, rfl, rfl⟩
        · have hje : j = g.ng := by omega
          have hjz : ¬ ((j : Int) < (g.ng : Int)) := by omega
          subst hje
          clear c11' c12' hcl
          go_wp2_with (first | (go_at_call 13; refine (way_len _ _ _ _ _ _ k7).mono ?_; rintro e wg ⟨rfl, hwg⟩; subst hwg))
          go_loopg [25] i (fun k s25 wx => ∃ (j q : Nat), s25 = .int .i64 j ∧ j ≤ i ∧ k = i - j ∧ wx = wg.drewN q)
          case atStart => exact ⟨0, 0, rfl, Nat.zero_le _, rfl, rfl⟩
          case round =>
            obtain ⟨j, q, rfl, hj, hkk, hwx⟩ := hrel
            by_cases hjn : j < i
            · as_aux_lemma =>
              have hjz : (j : Int) < (i : Int) := by omega
              obtain ⟨cb, id, gb, go, eb, sz, fi, cf, ef, wb, wo, wt, fb, kp, nm, b10, b11, b12, b13, F0⟩ := HL.out.fin hP p10 p11 p12 p13 hjn
              have F := F0.drewN q
              rw [← hwx] at F
              have HW : Hd (wr = wg.drewN q) := ⟨hwx⟩
              clear hwx F0
              obtain ⟨hid, hfi, hszz, f7, f8, f9, c8, c9, c10', c11', e3, ea10, ea11, ea12, ea13, r10, r11, r12, r13, own, named, p3, g0, g1, g5, g6, ef3, cf8, f7f, i20, i21, i22, i23, w1', w6, hwt⟩ := F
              subst ea10 ea11 ea12 ea13
              have hidz : (id : Int) < (g.ng : Int) := by omega
              have hn81 := neq81
              have hn86 := neq86
              have hn20 := neq20
              have hl14 : ∀ m, Calls Yba.prog 14 #[ptr gb (go + 1)] (wr.drewN m) fun e w' => e = .returned (.int .i64 sz) ∧ w' = wr.drewN m := fun m => len_walk gb (go + 1) sz (wr.drewN m) g5
              have hl15 : ∀ m, Calls Yba.prog 15 #[ptr gb go] (wr.drewN m) fun e w' => e = .returned (ptr cf 8) ∧ w' = wr.drewN m := fun m => oldest_walk gb go ef cf 8 sz (wr.drewN m) (by omega) g1 g5 ef3
              have hl14w : ∀ m, Calls Yba.prog 14 #[ptr wb (wo + 2)] (wr.drewN m) fun e w' => e = .returned (.int .i64 wt) ∧ w' = wr.drewN m := fun m => len_walk wb (wo + 2) wt (wr.drewN m) w6
              have hfiz : (fi : Int) < (i : Int) := by omega
              go_upto_region 67 with fail
              go_cut [270] from 209 to 418 (fun s270 wx => s270 = .bool false ∧ ∃ q', wx = wr.drewN q')
              case first => as_aux_lemma =>
                go_quiet (fail)
                go_wp2_with fail
                go_meet
                exact ⟨rfl, _, rfl⟩
              obtain ⟨rfl, q1, rfl⟩ := hcut
              as_aux_lemma =>
                go_upto_region 69 with fail
                go_cut [275] from 209 to 418 (fun s275 wx => ((s275 = .bool true ∧ nm = ⟨#[]⟩) ∨ (s275 = .bool false ∧ ¬ nm = ⟨#[]⟩)) ∧ wx = wr.drewN q1)
                case first => as_aux_lemma =>
                  by_cases hse : nm = ⟨#[]⟩
                  · have hbe : nm.toList.isEmpty = true := by rw [hse]; exact emp_toList
                    go_wp2_with fail
                    go_meet
                    exact ⟨Or.inl ⟨rfl, hse⟩, rfl⟩
                  · have hbe : nm.toList.isEmpty = false := (named hse).1
                    go_wp2_with fail
                    go_meet
                    exact ⟨Or.inr ⟨rfl, hse⟩, rfl⟩
                obtain ⟨hnmc, rfl⟩ := hcut
                as_aux_lemma =>
                  go_upto_if 275 with fail
                  go_cut [] from 209 to 418 (fun wx => ∃ q', wx = wr.drewN q')
                  case first => as_aux_lemma =>
                    rcases hnmc with ⟨rfl, hse⟩ | ⟨rfl, hse⟩
                    · obtain ⟨rfl, rfl⟩ := own hse
                      go_wp2_with fail
                      go_meet
                      exact ⟨_, rfl⟩
                    · obtain ⟨hne, rfl, hlk⟩ := named hse
                      go_upto_region 72 with fail
                      go_quiet (fail)
                      go_wp2_with fail
                      go_meet
                      exact ⟨_, rfl⟩
                  obtain ⟨q2, rfl⟩ := hcut
                  as_aux_lemma =>
                    go_upto_region 74 with fail
                    go_cut [338] from 209 to 418 (fun s338 wx => s338 = .bool false ∧ ∃ q', wx = wr.drewN q')
                    case first => as_aux_lemma =>
                      cases kp <;> (go_quiet (first | (go_at_call 14; refine quiet_add (hl14 _)) | (go_at_call 15; refine quiet_add (hl15 _))); go_wp2_with fail; go_meet; exact ⟨rfl, q2 + nq, by first | with_reducible rfl | rw [World.drewN_drewN]⟩)
                    obtain ⟨rfl, q3, rfl⟩ := hcut
                    as_aux_lemma =>
                      go_upto_region 76 with fail
                      go_cut [29] from 209 to 418 (fun s29 wx => s29 = .bool (kp && fi == j) ∧ wx = wr.drewN q3)
                      case first => as_aux_lemma =>
                        by_cases hfj : fi = j
                        · have hfb : (fi == j) = true := by simp [hfj]
                          rw [hfb] at f9
                          cases kp <;> (go_wp2_with fail; go_meet; exact ⟨by simp [hfb], rfl⟩)
                        · have hfb : (fi == j) = false := by simp [hfj]
                          rw [hfb] at f9
                          cases kp <;> (go_wp2_with fail; go_meet; exact ⟨by simp [hfb], rfl⟩)
                      obtain ⟨rfl, rfl⟩ := hcut
                      generalize (kp && fi == j) = sp at *
                      as_aux_lemma =>
                        go_upto_region 77 with fail
                        go_cut [383] from 209 to 418 (fun s383 wx => s383 = .bool false ∧ ∃ q', wx = wr.drewN q')
                        case first => as_aux_lemma =>
                          cases sp
                          · simp only [Bool.false_eq_true, if_false] at i22
                            go_wp2_with fail
                            go_meet
                            exact ⟨rfl, _, rfl⟩
                          · simp only [if_true] at i22
                            go_wp2_with fail
                            go_meet
                            exact ⟨rfl, _, rfl⟩
                        obtain ⟨rfl, q4, rfl⟩ := hcut
                        as_aux_lemma =>
                          go_upto_if 391 with fail
                          go_cut [30] from 209 to 418 (fun s30 wx => s30 = .int .i64 wt ∧ wx = wr.drewN q4)
                          case first => as_aux_lemma =>
                            cases kp
                            · have hwz : (wt : Int) = (sz : Int) := by simp at hwt; omega
                              go_wp2_with fail
                              go_meet
                              exact ⟨by rw [hwz], rfl⟩
                            · have hwz : (wt : Int) = (sz : Int) - 1 := by simp at hwt; omega
                              go_wp2_with fail
                              go_meet
                              exact ⟨by rw [hwz], rfl⟩
                          obtain ⟨rfl, rfl⟩ := hcut
                          clear hwt
                          as_aux_lemma =>
                            go_upto_region 82 with fail
                            go_cut [418] from 209 to 418 (fun s418 wx => s418 = .bool false ∧ ∃ q', wx = wr.drewN q')
                            case first => as_aux_lemma =>
                              go_quiet (first | (go_at_call 14; refine quiet_add (hl14w _)))
                              go_wp2_with fail
                              go_meet
                              exact ⟨rfl, q4 + nq, by first | with_reducible rfl | rw [World.drewN_drewN]⟩
                            obtain ⟨rfl, q5, rfl⟩ := hcut
                            as_aux_lemma =>
                              go_wp2_with fail
                              go_roundg (i - (j + 1))
                              case measure => omega
                              case rel => exact ⟨j + 1, q + q5, by go_num, by omega, rfl, by rw [HW.out, World.drewN_drewN]⟩
            · as_aux_lemma =>
              have hjz : ¬ ((j : Int) < (i : Int)) := by omega
              have hB := HL.out.bel
              have HB : Hd (Below w.heap.size w (wg.drewN q)) := ⟨⟨hB.os, hB.tape, hB.output, hB.size, hB.block⟩⟩
              clear hB
              go_wp2_with fail
              go_ret
              exact ⟨rfl, HB.out⟩
end Go.Proofs.Ybulkdcoi
