/-
  compactRequested BY ITS CONTRACT.
-/
import Derived.Test.YbulkdcoiComp
import Derived.Deep.Cut
import Derived.WalkKit
namespace Go.Proofs.Ybulkdcoi
open Go.RowKit Go.Sort Go.Shelf Go.Lib
set_option linter.unusedVariables false

theorem info21 : (Yba.prog.info? 21).map (fun i => (i.zero, i.size, i.bytes)) = some (some (.int .i32 0), 1, 4) := by kernel_rfl

/-- WHAT compactRequested LEAVES. -/
structure Left (w : World) (LB g cap : Nat) (K : List Nat) (w' : World) : Prop where
  grown : w.grownBy w' (some LB)
  cells : ∀ i, i < K.length → w'.cell? ⟨g, i, none⟩ = some (.int .i32 ((K.getD i 0 : Nat) : Int))

theorem left_old {w W : World} {LB c : Nat} {K : List Nat} (h : Rw w LB (K.map fun (v : Nat) => (v : Int)) W) : Left w LB LB c K W :=
  ⟨h.grown, fun i hi => by
    have := (h.holds i (by simpa using hi)).1
    rw [getElem!_pos (K.map fun (v : Nat) => (v : Int)).toArray i (by simpa using hi)] at this
    simpa [List.getD, hi] using this⟩

theorem left_new {w W w1 w2 : World} {LB g cap n : Nat} {K : List Nat} (h : w.grownBy W (some LB)) (h1 : W.grownBy w1 none) (h2 : w1.grownBy w2 (some g)) (hg : w.heap.size ≤ g)
    (hown : w2.ownsRow 0 21 1 (.slice (some ⟨g, 0, none⟩) n cap) n (K.map fun (v : Nat) => Value.int .i32 ((v : Nat) : Int))) (hn : n = K.length) : Left w LB g cap K w2 :=
  ⟨grown_new (grown_none h h1) h2 hg, fun i hi => by
    rw [hown.cellAt i (by omega)]
    simp [List.getD, hi]⟩

theorem cells_rw {w W W' : World} {LB : Nat} {K : List Nat} (h : Rw w LB (K.map fun (v : Nat) => (v : Int)) W) (hg : W.grownBy W' none) :
    ∀ (j : Nat) u, (K.map fun (v : Nat) => Value.int .i32 ((v : Nat) : Int))[j]? = some u → W'.cell? ((⟨LB, 0, none⟩ : Addr).add j) = some u := by
  intro j u hu
  have hj : j < K.length := by
    have := (List.getElem?_eq_some_iff.1 hu).1
    simpa using this
  have := (left_old (c := 0) h).cells j hj
  have e : (K.map fun (v : Nat) => Value.int .i32 ((v : Nat) : Int))[j]? = some (.int .i32 ((K.getD j 0 : Nat) : Int)) := by simp [List.getD, hj]
  rw [e] at hu
  cases hu
  rw [Addr.add_lit, Nat.zero_add]
  exact hg.cell this (by simp)
theorem nats_oneCell (K : List Nat) : ∀ u ∈ K.map (fun (v : Nat) => Value.int .i32 ((v : Nat) : Int)), u.oneCell' = true := by
  intro u hu
  obtain ⟨_, _, rfl⟩ := List.mem_map.1 hu
  rfl

set_option maxRecDepth 100000 in
set_option maxHeartbeats 4000000 in
theorem comp_walk (S : Nat → Int) (p NB MB RB LB N c : Nat) (vs : List Nat) (w : World) (hp : p < 3) (hv : ∀ v ∈ vs, v < N) (hN2 : N ≤ 1024) (hc2 : c ≤ 2000)
    (h2 : w.cell? ⟨NB, 17, none⟩ = some (.slice (some ⟨MB, 0, none⟩) N N)) (h4 : w.cell? ⟨NB, 55, none⟩ = some (.slice (some ⟨RB, 0, none⟩) 3 3)) (h5 : w.cell? ⟨RB, p, none⟩ = some (.slice (some ⟨LB, 0, none⟩) vs.length c))
    (h3 : ∀ i, i < N → w.cell? ⟨MB, i * 46 + 34, none⟩ = some (.int .i32 (S i))) (hH : Holds (Value.int .i32) w LB 0 (vs.map fun (v : Nat) => (v : Int)).toArray)
    (n2 : NB ≠ LB) (n3 : MB ≠ LB) (hcap : vs.length ≤ c) (hLB : LB < w.heap.size) :
    Calls Yba.prog 7 #[.pointer (some ⟨NB, 0, none⟩), .int .i32 p] w fun e w' => ∃ g, e = .returned (.slice (some ⟨g, 0, none⟩) (kz N S p vs).length (wantCap c (kz N S p vs).length)) ∧ Left w LB g (wantCap c (kz N S p vs).length) (kz N S p vs) w' := by
  have e : ∀ a v, w.cell? a = some v → (((w.alloc (.cells #[.pointer (some ⟨NB, 0, none⟩)] 24)).alloc (.cells #[.int .i32 p] 21)).drew).cell? a = some v := fun a v h => cell?_alloc_old _ (cell?_alloc_old _ h)
  have hH1 : Holds (Value.int .i32) (((w.alloc (.cells #[.pointer (some ⟨NB, 0, none⟩)] 24)).alloc (.cells #[.int .i32 p] 21)).drew) LB 0 (vs.map fun (v : Nat) => (v : Int)).toArray := fun j hj => ⟨e _ _ (hH j hj).1, by
    have := (hH j hj).2
    rw [show (((w.alloc (.cells #[.pointer (some ⟨NB, 0, none⟩)] 24)).alloc (.cells #[.int .i32 p] 21)).drew).frozen? ⟨LB, 0 + j, none⟩ = ((w.alloc (.cells #[.pointer (some ⟨NB, 0, none⟩)] 24)).alloc (.cells #[.int .i32 p] 21)).frozen? ⟨LB, 0 + j, none⟩ from rfl, World.frozen?_alloc_old _ _ _ (by show LB ≠ (w.alloc _).heap.size; simp; omega), World.frozen?_alloc_old _ _ _ (by show LB ≠ w.heap.size; omega)]
    exact this⟩
  have hR1 : Rw w LB (vs.map fun (v : Nat) => (v : Int)) (((w.alloc (.cells #[.pointer (some ⟨NB, 0, none⟩)] 24)).alloc (.cells #[.int .i32 p] 21)).drew) :=
    ⟨grown_none (grown_trans (World.grownBy_alloc w _ _) (World.grownBy_alloc _ _ _)) ⟨rfl, rfl, rfl, Nat.le_refl _, fun _ _ _ => rfl⟩, hH1⟩
  have hcon := del_any S p w.heap.size (w.heap.size + 1) NB MB LB N c vs ((w.alloc (.cells #[.pointer (some ⟨NB, 0, none⟩)] 24)).alloc (.cells #[.int .i32 p] 21)).drew hv hN2 (by go_simp) (by go_simp) (e _ _ h2) (fun i hi => e _ _ (h3 i hi)) hH1
    (by omega) (by omega) n2 n3 hcap (by omega)
  have hk1 := kept_le S p vs
  have hk2 := kz_le N S p vs hv
  have hcon' : Calls Yba.prog 16 #[.slice (some ⟨LB, 0, none⟩) vs.length c, .func (.func 17) #[] #[.pointer (some ⟨w.heap.size, 0, none⟩), .pointer (some ⟨w.heap.size + 1, 0, none⟩)]] ((w.alloc (.cells #[.pointer (some ⟨NB, 0, none⟩)] 24)).alloc (.cells #[.int .i32 p] 21)).drew fun e w' =>
      e = .returned (.slice (some ⟨LB, 0, none⟩) (kept S p vs).length c) ∧ Rw w LB (kept S p vs) w' ∧ LB < w'.heap.size := hcon.mono fun e w' ⟨he, q, hw⟩ => by
    subst hw
    refine ⟨he, rw_put hR1 (by simp; omega), ?_⟩
    rw [size_putRow]
    show LB < ((w.alloc _).alloc _).heap.size
    simp
    omega
  have e4 := e _ _ h4
  have e5 := e _ _ h5
  have hNB : NB < w.heap.size := World.block_lt_of_cell? _ _ h4
  have hRB : RB < w.heap.size := World.block_lt_of_cell? _ _ h5
  clear hcon hH1 hR1 e hH
  have hcpt := fun w3 (h : Rw w LB ((kept S p vs).mergeSort fun x y => decide (x ≤ y)) w3) => cpt_any LB c N S p vs hv w w3 h (by omega) (by omega)
  clear hv h3
  obtain ⟨i0, hi, hz0, hz1, hz2⟩ := info_parts info21
  generalize kz N S p vs = K at hk2 hcpt ⊢
  obtain ⟨k, hk⟩ : ∃ k, k = K.length := ⟨_, rfl⟩
  obtain ⟨M, hM⟩ : ∃ M, M = wantCap c k := ⟨_, rfl⟩
  rw [← hk, ← hM]
  rw [← hk] at hk2 hcpt
  have HK : Hid (k = K.length) := hk
  have HM : Hid (M = wantCap c k) := hM
  clear hk hM
  have HC : Hid (∀ w3, Rw w LB ((kept S p vs).mergeSort fun x y => decide (x ≤ y)) w3 → Calls Yba.prog 19 #[.slice (some ⟨LB, 0, none⟩) (kept S p vs).length c] w3 fun e w' => e = .returned (.slice (some ⟨LB, 0, none⟩) k c) ∧ Rw w LB (K.map fun (v : Nat) => (v : Int)) w') := hcpt
  clear hcpt
  obtain ⟨L, hL⟩ : ∃ L, L = kept S p vs := ⟨_, rfl⟩
  rw [← hL] at hk1 hk2 hcon' HC
  clear hL
  go_enter Yba.func7, Yba.ntmps7
  go_upto_region 1 with fail
  go_cut [5] from 6 (fun s5 wc => s5 = .slice (some ⟨LB, 0, none⟩) L.length c ∧ Rw w LB L wc ∧ LB < wc.heap.size)
  case first =>
    go_region_with (go_at_call 16; refine hcon'.mono ?_; rintro e w' ⟨rfl, hrw⟩)
    all_goals (go_wp2_with fail; go_meet; exact ⟨rfl, hrw⟩)
  case rest =>
    obtain ⟨rfl, hR, hb⟩ := hcut
    have hS := sort_any LB c L w wc hR hb (by omega)
    clear hcon' h2 h4 h5 hR hb e4 e5
    go_wp2_with fail
    refine hS.mono ?_
    rintro e w3 ⟨rfl, hR3, hb3⟩
    clear hS
    go_wp2_with fail
    refine (HC.out w3 hR3).mono ?_
    rintro e w4 ⟨rfl, hR4⟩
    clear hR3 hb3 HC
    have HR : Hid (Rw w LB (K.map fun (v : Nat) => (v : Int)) w4) := hR4
    clear hR4
    by_cases hA : 2 * k > c
    · by_cases hB : 2 * c < 16
      · go_wp2_with (first | (at_make; refine wpList_make_own _ rfl _ _ 25 rfl 0 21 i0 (.int .i32 0) 1 Yba.underlying25 hi hz0 hz1 _ _ _ (16) rfl rfl (by omega) (by rw [hz2]; omega) (by unfold maxLen; omega) (Nat.zero_le _) ?_; intro w5 hown hgrow) | (at_builtin; refine wpList_append_fits _ rfl (.tmp 30) (.tmp 31) 25 rfl 0 21 i0 1 Yba.underlying25 hi hz1 _ 0 (16) [] rfl hown ⟨LB, 0, none⟩ k c (K.map fun (v : Nat) => Value.int .i32 ((v : Nat) : Int)) rfl (by rw [List.length_map, HK.out, Nat.mul_one]) (cells_rw HR.out hgrow) (nats_oneCell K) (by omega) ?_; intro w6 hown6 hgrow6))
        go_ret
        rw [Nat.zero_add, List.nil_append] at hown6
        have hM : M = 16 := by rw [HM.out]; unfold wantCap; rw [if_pos hA, if_pos hB]
        subst hM
        exact ⟨w4.heap.size, by simp, left_new HR.out.grown hgrow hgrow6 HR.out.grown.size hown6 HK.out⟩
      · go_wp2_with (first | (at_make; refine wpList_make_own _ rfl _ _ 25 rfl 0 21 i0 (.int .i32 0) 1 Yba.underlying25 hi hz0 hz1 _ _ _ (2 * c) rfl rfl (by omega) (by rw [hz2]; omega) (by unfold maxLen; omega) (Nat.zero_le _) ?_; intro w5 hown hgrow) | (at_builtin; refine wpList_append_fits _ rfl (.tmp 30) (.tmp 31) 25 rfl 0 21 i0 1 Yba.underlying25 hi hz1 _ 0 (2 * c) [] rfl hown ⟨LB, 0, none⟩ k c (K.map fun (v : Nat) => Value.int .i32 ((v : Nat) : Int)) rfl (by rw [List.length_map, HK.out, Nat.mul_one]) (cells_rw HR.out hgrow) (nats_oneCell K) (by omega) ?_; intro w6 hown6 hgrow6))
        go_ret
        rw [Nat.zero_add, List.nil_append] at hown6
        have hM : M = 2 * c := by rw [HM.out]; unfold wantCap; rw [if_pos hA, if_neg hB]
        subst hM
        exact ⟨w4.heap.size, by simp, left_new HR.out.grown hgrow hgrow6 HR.out.grown.size hown6 HK.out⟩
    · by_cases hC : c > 4 * k + 64
      · go_wp2_with (first | (at_make; refine wpList_make_own _ rfl _ _ 25 rfl 0 21 i0 (.int .i32 0) 1 Yba.underlying25 hi hz0 hz1 _ _ _ (2 * k + 32) rfl rfl (by omega) (by rw [hz2]; omega) (by unfold maxLen; omega) (Nat.zero_le _) ?_; intro w5 hown hgrow) | (at_builtin; refine wpList_append_fits _ rfl (.tmp 45) (.tmp 46) 25 rfl 0 21 i0 1 Yba.underlying25 hi hz1 _ 0 (2 * k + 32) [] rfl hown ⟨LB, 0, none⟩ k c (K.map fun (v : Nat) => Value.int .i32 ((v : Nat) : Int)) rfl (by rw [List.length_map, HK.out, Nat.mul_one]) (cells_rw HR.out hgrow) (nats_oneCell K) (by omega) ?_; intro w6 hown6 hgrow6))
        go_ret
        rw [Nat.zero_add, List.nil_append] at hown6
        have hM : M = 2 * k + 32 := by rw [HM.out]; unfold wantCap; rw [if_neg hA, if_pos hC]
        subst hM
        exact ⟨w4.heap.size, by simp, left_new HR.out.grown hgrow hgrow6 HR.out.grown.size hown6 HK.out⟩
      · go_wp2_with fail
        go_ret
        have hM : M = c := by rw [HM.out]; unfold wantCap; rw [if_neg hA, if_neg hC]
        subst hM
        exact ⟨LB, rfl, left_old HR.out⟩
end Go.Proofs.Ybulkdcoi
