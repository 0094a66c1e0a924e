/-
  zzs5195abuild BY ITS CONTRACT.
-/
import Derived.Test.YbulkdcoiSt
namespace Go.Proofs.Ybulkdcoi
open Go.RowKit Go.Sort Go.Shelf Go.Lib
set_option linter.unusedVariables false

theorem make58 (w : World) : (Instr.makeSlice 58 (.int .i64 3) (.int .i64 3)).run Yba.prog w = .ok (.slice (some ⟨w.heap.size, 0, none⟩) 3 3) (w.alloc (.cells #[.slice none 0 0, .slice none 0 0, .slice none 0 0] 25)) := by kernel_rfl

theorem fold_world (W : World) (b p : Nat) (v u : Value) (h : b < W.heap.size) (hp : p < 3) :
    ((W.alloc (.cells #[.slice none 0 0, .slice none 0 0, .slice none 0 0] 25)).setCell ⟨b, 55, none⟩ v).setCell ⟨W.heap.size, p, none⟩ u = (W.setCell ⟨b, 55, none⟩ v).alloc (.cells ([Value.slice none 0 0, .slice none 0 0, .slice none 0 0].set p u).toArray 25) := by
  have hne : b ≠ W.heap.size := by omega
  go_simp
theorem new_one (W : World) (a : Int) (v : Value) (hv : v = .int .i32 a) : ∀ (j : Nat) u, [v][j]? = some u → (W.alloc (.cells #[.int .i32 a] 21)).cell? ((⟨W.heap.size, 0, none⟩ : Addr).add j) = some u := by
  intro j u hj
  match j, hj with
  | 0, hj => simp at hj; subst hj; simp [Addr.add, hv]
theorem one_one' (a : Int) : ∀ u ∈ [Value.int .i32 a], u.oneCell' = true := by
  intro u hu
  simp at hu
  subst hu
  rfl
theorem org_mid {w2 wr w3 : World} {LB OB c n1 k j : Nat} {x : Nat → Nat} {o : Obj} (h : St2 w2 wr LB OB c n1 (vsUp k x j)) (g1 : (wr.alloc o).grownBy w3 (some LB)) : w3.ownsRow 0 21 1 (.slice (some ⟨OB, 0, none⟩) j n1) j (encN (vsUp k x j)) := by
  have := st2_mid h g1
  rw [vsUp_len] at this
  exact this
theorem st2_round {w2 wr w3 w4 : World} {LB OB c n1 v k j : Nat} {x : Nat → Nat} {o o' : Obj} (h : St2 w2 wr LB OB c n1 (vsUp k x j)) (h1 : w3.ownsRow 0 21 1 (.slice (some ⟨LB, 0, none⟩) (j + 1) c) (j + 1) (encN (vsUp k x j) ++ [Value.int .i32 ((v : Nat) : Int)])) (g1 : (wr.alloc o).grownBy w3 (some LB))
    (h2 : w4.ownsRow 0 21 1 (.slice (some ⟨OB, 0, none⟩) (j + 1) n1) (j + 1) (encN (vsUp k x j) ++ [Value.int .i32 ((v : Nat) : Int)])) (g2 : (w3.alloc o').grownBy w4 (some OB)) : St2 w2 w4 LB OB c n1 (vsUp k x j ++ [v]) :=
  st2_step h (by rw [vsUp_len]; exact h1) g1 (by rw [vsUp_len]; exact h2) g2

set_option maxRecDepth 100000 in
set_option maxHeartbeats 1000000 in
theorem build_walk (a0 a1 : Option Addr) (b off N cap0 b1 off1 n1 cap1 ex p : Nat) (z : Nat → Int) (x : Nat → Nat) (w : World) (hN : N ≤ 1024) (hn1 : n1 ≤ 1024) (hex : ex ≤ 255) (hp : p < 3)
    (hs : 0 < N → a0 = some ⟨b, off, none⟩) (hc : ∀ i, i < N → w.cell? ⟨b, off + i, none⟩ = some (.int .i8 (z i))) (hz : ∀ i, -128 ≤ z i ∧ z i ≤ 127)
    (hs1 : 0 < n1 → a1 = some ⟨b1, off1, none⟩) (hc1 : ∀ i, i < n1 → w.cell? ⟨b1, off1 + i, none⟩ = some (.int .u8 ((x i : Nat) : Int))) (hx : ∀ i, x i ≤ 255) :
    Calls Yba.prog 6 #[.slice a0 N cap0, .slice a1 n1 cap1, .int .u8 (ex : Int), .int .i32 (p : Int)] w fun e w' =>
      ∃ RB LB OB, e = .returned (.tuple #[.pointer (some ⟨w.heap.size, 0, none⟩), .slice (some ⟨OB, 0, none⟩) (vsUp N x (if N = 0 then 0 else n1)).length n1, .int .i64 ((n1 + ex % 80 : Nat) : Int)]) ∧
        Built w w' RB LB OB N (n1 + ex % 80) n1 p (fun i => (z i).tmod 4) (vsUp N x (if N = 0 then 0 else n1)) := by
  obtain ⟨i0, hi, hz0, hz1, hz2⟩ := info_parts info21
  have HC : Hid (∀ i, i < N → w.cell? ⟨b, off + i, none⟩ = some (.int .i8 (z i))) := hc
  have HS : Hid (0 < N → a0 = some ⟨b, off, none⟩) := hs
  have HZ : Hid (∀ i, -128 ≤ z i ∧ z i ≤ 127) := hz
  have HC1 : Hid (∀ i, i < n1 → w.cell? ⟨b1, off1 + i, none⟩ = some (.int .u8 ((x i : Nat) : Int))) := hc1
  have HS1 : Hid (0 < n1 → a1 = some ⟨b1, off1, none⟩) := hs1
  have HX : Hid (∀ i, x i ≤ 255) := hx
  clear hc hs hz hc1 hs1 hx
  have hmk := make58
  go_enter Yba.func6, Yba.ntmps6
  go_wp2_with (at_make; refine wpList_make_full _ rfl _ _ 44 rfl 0 72 Yba.t72 (Yba.t72.zero.getD undef) 46 Yba.underlying44 info72 zero72 size72 _ _ _ _ N rfl rfl rfl rfl (by rw [bytes72]; omega) (by unfold maxLen; omega) (Nat.zero_le _) ?_; intro w1 hown hgrow)
  have hst := st1_start (fun i => (z i).tmod 4) hown hgrow (by go_simp) (by go_simp) (by go_simp) (by go_simp)
  clear hown hgrow
  have HST : Hid (St1 w w1 N 0 (fun i => (z i).tmod 4) (.slice none 0 0)) := hst
  clear hst
  go_loopw [28] (fun vk wr => ∃ k : Nat, vk = .int .i64 k ∧ k ≤ N ∧ St1 w wr N k (fun i => (z i).tmod 4) (.slice none 0 0)) (fun vk _ => N - (intOf vk).toNat)
  case atStart => exact ⟨0, rfl, Nat.zero_le _, HST.out⟩
  case round =>
    clear HST
    obtain ⟨k, rfl, hk, hst⟩ := hrel
    by_cases hlt : k < N
    · obtain rfl := HS.out (by omega)
      have hck : wr.cell? ⟨b, off + k, none⟩ = some (.int .i8 (z k)) := (hst.bel.cell (p := ⟨b, off + k, none⟩) (World.block_lt_of_cell? _ _ (HC.out k hlt))).trans (HC.out k hlt)
      have hcm := hst.ms.cell k hlt
      have hfm := hst.ms.free k hlt
      have hzk := HZ.out k
      have hstep := st1_step hst hlt
      obtain ⟨y, hy⟩ : ∃ y, y = z k := ⟨_, rfl⟩
      rw [← hy] at hck hzk
      replace hstep : St1 w (wr.setCell ⟨w.heap.size + 1, k * 46 + 34, none⟩ (.int .i32 (y.tmod 4))) N (k + 1) (fun i => (z i).tmod 4) (.slice none 0 0) := by rw [hy]; exact hstep
      have HR : Hid _ := hstep
      clear hstep hst hy
      go_wp2
      go_roundw
      case rel => exact ⟨k + 1, by go_num, hlt, HR.out⟩
      case measure => simp [intOf]; omega
    · obtain rfl : k = N := by omega
      have hc17 := hst.c17
      have hf17 := hst.f17
      have h2 := st1_msgs hst (.slice (some ⟨w.heap.size + 1, 0, none⟩) k k)
      have hsz : (wr.setCell ⟨w.heap.size, 17, none⟩ (.slice (some ⟨w.heap.size + 1, 0, none⟩) k k)).heap.size = wr.heap.size := by simp
      clear hst
      have H2 : Hid (St1 w (wr.setCell ⟨w.heap.size, 17, none⟩ (.slice (some ⟨w.heap.size + 1, 0, none⟩) k k)) k k (fun i => (z i).tmod 4) (.slice (some ⟨w.heap.size + 1, 0, none⟩) k k)) := h2
      have HSZ : Hid ((wr.setCell ⟨w.heap.size, 17, none⟩ (.slice (some ⟨w.heap.size + 1, 0, none⟩) k k)).heap.size = wr.heap.size) := hsz
      clear h2 hsz
      go_wp2_with (first | (at_make; refine wpList_make_own _ rfl _ (.tmp 51) 25 rfl 0 21 i0 (.int .i32 0) 1 Yba.underlying25 hi hz0 hz1 _ _ _ (n1 + ex % 80) rfl rfl (by omega) (by rw [hz2]; omega) (by unfold maxLen; omega) (Nat.zero_le _) ?_; intro w3 hown3 hgrow3) | (at_make; refine wpList_make_own _ rfl _ (.tmp 54) 25 rfl 0 21 i0 (.int .i32 0) 1 Yba.underlying25 hi hz0 hz1 _ _ _ n1 rfl rfl (by omega) (by rw [hz2]; omega) (by unfold maxLen; omega) (Nat.zero_le _) ?_; intro w4 hown4 hgrow4; clear hmk))
      · have h0k : 0 < k := by assumption
        have S2 := st2_start hown3 hgrow3 hown4 hgrow4
        rw [HSZ.out] at S2
        generalize wr.setCell ⟨w.heap.size, 17, none⟩ (.slice (some ⟨w.heap.size + 1, 0, none⟩) k k) = w2 at *
        clear hown3 hgrow3 hown4 hgrow4 hc17 hf17
        have HW2 : Hid (St2 w2 w4 wr.heap.size w3.heap.size (n1 + ex % 80) n1 []) := S2
        clear S2
        obtain ⟨LB, hLB⟩ : ∃ LB, LB = wr.heap.size := ⟨_, rfl⟩
        obtain ⟨OB, hOB⟩ : ∃ OB, OB = w3.heap.size := ⟨_, rfl⟩
        have HL : Hid (LB = wr.heap.size) := hLB
        have HO : Hid (OB = w3.heap.size) := hOB
        have HL2 : Hid (w2.heap.size = LB) := HSZ.out.trans hLB.symm
        rw [← hLB, ← hOB] at HW2
        clear hLB hOB HSZ
        have hmk := make58
        go_loopw [16, 17, 61] (fun s16 s17 s61 wq => ∃ j : Nat, s61 = .int .i64 j ∧ j ≤ n1 ∧ s16 = .slice (some ⟨LB, 0, none⟩) j (n1 + ex % 80) ∧ s17 = .slice (some ⟨OB, 0, none⟩) j n1 ∧ St2 w2 wq LB OB (n1 + ex % 80) n1 (vsUp k x j)) (fun _ _ s61 _ => n1 - (intOf s61).toNat)
        case atStart => exact ⟨0, rfl, Nat.zero_le _, by rw [HL.out], by rw [HO.out], HW2.out⟩
        case round =>
          clear HW2 HL HO
          obtain ⟨j, rfl, hj, rfl, rfl, hS2⟩ := hrel
          have hlo := hS2.lo
          have hhi := hS2.hi
          have hs1 : w.heap.size + 1 < LB := by rw [← HL2.out]; exact H2.out.size
          by_cases hlt2 : j < n1
          · obtain rfl := HS1.out (by omega)
            have hc0 := HC1.out j hlt2
            have hb1 := World.block_lt_of_cell? _ _ hc0
            have hcj : wr.cell? ⟨b1, off1 + j, none⟩ = some (.int .u8 ((x j : Nat) : Int)) :=
              (hS2.bel.cell (p := ⟨b1, off1 + j, none⟩) (by show b1 < LB; have : b1 < w.heap.size := hb1; omega)).trans ((H2.out.bel.cell (p := ⟨b1, off1 + j, none⟩) hb1).trans hc0)
            have hxj := HX.out j
            have hlst : wr.ownsRow 0 21 1 (.slice (some ⟨LB, 0, none⟩) j (n1 + ex % 80)) j (encN (vsUp k x j)) := by have := hS2.lst; rw [vsUp_len] at this; exact this
            have HS2 : Hid _ := hS2
            obtain ⟨y, hy⟩ : ∃ y, y = x j := ⟨_, rfl⟩
            rw [← hy] at hcj hxj
            have HY : Hid (y = x j) := hy
            have hyk : y % k < k := Nat.mod_lt _ h0k
            clear hy hS2 hc0 hb1
            go_wp2_with (first | (at_builtin; refine wpList_append_fits _ rfl (.tmp 71) (.tmp 73) 25 rfl 0 21 i0 1 Yba.underlying25 hi hz1 LB j (n1 + ex % 80) (encN (vsUp k x j)) rfl (hlst.alloc _) ⟨wr.heap.size, 0, none⟩ 1 1 [.int .i32 ((y % k : Nat) : Int)] rfl rfl (new_one wr _ _ rfl) (one_one' _) (by omega) ?_; intro w5 hown5 hgrow5; have horg := org_mid HS2.out hgrow5) | (at_builtin; refine wpList_append_fits _ rfl (.tmp 75) (.tmp 77) 25 rfl 0 21 i0 1 Yba.underlying25 hi hz1 OB j n1 (encN (vsUp k x j)) rfl (horg.alloc _) ⟨w5.heap.size, 0, none⟩ 1 1 [.int .i32 ((y % k : Nat) : Int)] rfl rfl (new_one w5 _ _ rfl) (one_one' _) (by omega) ?_; intro w6 hown6 hgrow6))
            have R := st2_round HS2.out hown5 hgrow5 hown6 hgrow6
            rw [HY.out, ← vsUp_succ] at R
            refine ⟨⟨_, _, _, _, .int .i64 ((j : Int) + 1), ⟨j + 1, by go_num, hlt2, rfl, rfl, R⟩, rfl, rfl, rfl, rfl, rfl⟩, ?_⟩
            simp [intOf]
            omega
          · obtain rfl : j = n1 := by omega
            have HF : Hid _ := hS2
            have hc55 : wr.cell? ⟨w.heap.size, 55, none⟩ = some (.slice none 0 0) := (hS2.bel.cell (p := ⟨w.heap.size, 55, none⟩) (by show w.heap.size < LB; omega)).trans H2.out.c55
            have hf55 : wr.frozen? ⟨w.heap.size, 55, none⟩ = false := by
              have hb := hS2.bel.block w.heap.size (by omega)
              exact (World.frozen?_of_block (a := ⟨w.heap.size, 55, none⟩) hb).trans H2.out.f55
            clear hS2
            have hlw : w.heap.size < wr.heap.size := by omega
            go_wp2
            go_ret3
            have hB := built_of H2.out (by rw [HL2.out]; exact HF.out) hp
            rw [HL2.out] at hB
            refine ⟨wr.heap.size, LB, OB, ?_, ?_⟩
            · rw [vsUp_len]
              rfl
            · rw [vsUp_len, fold_world wr w.heap.size p _ _ hlw hp] at hB
              exact hB
      · have h0k : k = 0 := by
          have : ¬ 0 < k := by assumption
          omega
        have S2 := st2_start hown3 hgrow3 hown4 hgrow4
        have hs1 : w.heap.size + 1 < wr.heap.size := by rw [← HSZ.out]; exact H2.out.size
        have hB := built_of H2.out S2 hp
        have hc55 : w4.cell? ⟨w.heap.size, 55, none⟩ = some (.slice none 0 0) := (S2.bel.cell (p := ⟨w.heap.size, 55, none⟩) (by show w.heap.size < _; rw [HSZ.out]; omega)).trans H2.out.c55
        have hf55 : w4.frozen? ⟨w.heap.size, 55, none⟩ = false := by
          have hb := S2.bel.block w.heap.size (by rw [HSZ.out]; omega)
          exact (World.frozen?_of_block (a := ⟨w.heap.size, 55, none⟩) hb).trans H2.out.f55
        have hlw : w.heap.size < w4.heap.size := by
          have := S2.lo
          have := S2.hi
          rw [HSZ.out] at *
          omega
        rw [HSZ.out] at hB
        have HB : Hid _ := hB
        subst h0k
        clear hB S2 hown3 hgrow3 hown4 hgrow4 hc17 hf17
        rw [make58]
        go_wp2
        go_ret3
        refine ⟨w4.heap.size, wr.heap.size, w3.heap.size, ?_, ?_⟩
        · rfl
        · rw [← fold_world w4 w.heap.size p _ _ hlw hp]
          exact HB.out
end Go.Proofs.Ybulkdcoi
