/-
  heap.Push ON A RANKING (age groups); 'update' of a group that is not in it; 'remove' of one that is not.
-/
import Derived.Test.YbulkdcoiH6a
import Derived.Test.YbulkdcoiH8a
import Derived.Test.YbulkdcoiZ
namespace Go.Proofs.Ybulkdcoi
open Go.RowKit
set_option linter.unusedVariables false

theorem inf86 : (Yba.prog.info? 86).map (fun i => (i.zero, i.size, i.bytes)) = some (some (.pointer none), 1, 8) := by kernel_rfl

set_option maxRecDepth 100000 in
set_option maxHeartbeats 1000000 in
theorem age_hpush {K : Nat → Nat → Prop} {Mem : Nat → Nat → Prop} {RB ro n : Nat} {hd : Option (Nat × Nat)} (M : Cel) (W : World) (gb go : Nat) (v0 : Value) (hA : Agr W M) (h : RkZ W M K Mem RB ro hd n 86) (hn : n < 100000)
    (g7 : M gb (go + 7) = some v0) (gK : K gb (go + 7)) (ga : ¬ arrB hd gb) (gR : gb ≠ RB) (gm : ¬ Mem gb go) (oks : ∀ xb xo, Mem xb xo → AgeOkM (RZ K hd) M xb xo) (ok : AgeOkM (RZ K hd) M gb go) :
    Calls Yba.prog 34 #[.iface 142 (ptr RB ro), .iface 86 (ptr gb go)] W fun e w' => e = .returned (.tuple #[]) ∧ ∃ M' hd', Stp W M w' M' ∧ RkZ w' M' K (Mem1 Mem gb go) RB ro hd' (n + 1) 86 ∧ Fz W M M' K hd RB ro ∧ Gr W hd hd' := by
  obtain ⟨i, hi, hz, hsz, hby⟩ : ∃ i, Yba.prog.info? 86 = some i ∧ i.zero = some (.pointer none) ∧ i.size = 1 ∧ i.bytes = 8 := by
    have := inf86
    cases hi : Yba.prog.info? 86 with
    | none => rw [hi] at this; cases this
    | some i =>
      rw [hi] at this
      simp at this
      exact ⟨i, rfl, this.1, this.2.1, this.2.2⟩
  obtain ⟨A', cap', w2, M1, hrun, k0, z0, k7, z7, hst, hrk, hfz, hgr⟩ := push_z (t := 119) (ty := 119) Yba.underlying119 hi hz hsz (by omega) rfl hA h (by omega) g7 gK ga gR gm
  have hp1 : Calls Yba.prog 91 #[ptr RB ro, .iface 86 (ptr gb go)] W fun e w' => e = .returned (.tuple #[]) ∧ Stp W M w' M1 ∧ RkZ w' M1 K (Mem1 Mem gb go) RB ro (some (A', cap')) (n + 1) 86 :=
    age_push_raw RB ro A' n cap' gb go _ v0 W w2 _ (by omega) (Ne.symm gR) hrun (hA _ _ _ h.hdr).1 k0 z0 k7 z7 ⟨hst, hrk⟩
  have okA : ∀ k gb' go', k < n + 1 → M1 A' k = some (ptr gb' go') → AgeOkM (RZ K (some (A', cap'))) M1 gb' go' := by
    intro k gb' go' hk hm
    obtain ⟨xb, xo, hx, he, hr⟩ := hrk.ent A' k ⟨cap', rfl⟩ hk
    rw [hm] at he
    obtain ⟨rfl, rfl⟩ := ptr_inj he
    rcases hx with hx | ⟨rfl, rfl⟩
    · exact (oks _ _ hx).fz hA h.hdr hfz hgr
    · exact ok.fz hA h.hdr hfz hgr
  have hup : ∀ w1, Stp W M w1 M1 → RkZ w1 M1 K (Mem1 Mem gb go) RB ro (some (A', cap')) (n + 1) 86 → w1.cell? ⟨RB, ro, none⟩ = some (.slice (some ⟨A', 0, none⟩) (n + 1) cap') ∧ Calls Yba.prog 53 #[.iface 142 (ptr RB ro), .int .i64 n] w1 fun e w' => e = .returned (.tuple #[]) ∧ ∃ M' hd', Stp W M w' M' ∧ RkZ w' M' K (Mem1 Mem gb go) RB ro hd' (n + 1) 86 ∧ Fz W M M' K hd RB ro ∧ Gr W hd hd' := fun w1 s1 r1 =>
    ⟨(s1.agr _ _ _ r1.hdr).1, (age_up M1 w1 n s1.agr ⟨r1.rk, Kp.refl _ _, fun _ _ => rfl, okA⟩ (Nat.le_refl _) (by omega) (by omega)).mono fun e w' ⟨he, M2, s2, p2⟩ =>
      ⟨he, M2, some (A', cap'), s1.trans s2, p2.rk.z (s2.shape _ _ _ r1.rows.2.2.1) r1.rows.2.1, fun b o hb hk ha hne => (p2.kp b o (fun hr => by
        rcases hr with hr | hr
        · exact hk hr
        · exact hgr.not hb ha hr)).trans (hfz b o hb hk ha hne), hgr⟩⟩
  have hm1 := push142
  have hm2 := len142
  clear okA hrk hst k0 z0 k7 z7 hrun oks ok g7 h hA
  go_enter Yba.func34, Yba.ntmps34
  go_wp2_with (first | (go_at_call 91; refine hp1.mono ?_; rintro e w1 ⟨rfl, s1, r1⟩; obtain ⟨hc, hu⟩ := hup w1 s1 r1) | (go_at_call 12; refine (age_len _ _ _ _ _ _ hc).mono ?_; rintro e w' ⟨rfl, rfl⟩) | (go_at_call 53; refine hu.mono ?_; rintro e w' ⟨rfl, hfin⟩))
  go_end0
  exact ⟨rfl, hfin⟩

set_option maxRecDepth 100000 in
set_option maxHeartbeats 1000000 in
theorem age_update_new {K : Nat → Nat → Prop} {Mem : Nat → Nat → Prop} {RB ro n : Nat} {hd : Option (Nat × Nat)} (M : Cel) (W : World) (gb go : Nat) (hA : Agr W M) (h : RkZ W M K Mem RB ro hd n 86) (hn : n < 100000)
    (g7 : M gb (go + 7) = some (.int .i64 0)) (gK : K gb (go + 7)) (ga : ¬ arrB hd gb) (gR : gb ≠ RB) (gm : ¬ Mem gb go) (oks : ∀ xb xo, Mem xb xo → AgeOkM (RZ K hd) M xb xo) (ok : AgeOkM (RZ K hd) M gb go) :
    Calls Yba.prog 23 #[ptr RB ro, ptr gb go] W fun e w' => e = .returned (.tuple #[]) ∧ ∃ M' hd', Stp W M w' M' ∧ RkZ w' M' K (Mem1 Mem gb go) RB ro hd' (n + 1) 86 ∧ Fz W M M' K hd RB ro ∧ Gr W hd hd' := by
  have hp := age_hpush M W gb go _ hA h hn g7 gK ga gR gm oks ok
  have c7 := (hA _ _ _ g7).1
  have hm := at86
  simp [Yba.t86] at hm
  clear hA h g7 oks ok
  go_enter Yba.func23, Yba.ntmps23
  go_wp2_with (first | (go_at_call 85; refine (at_age _ _ _).mono ?_; rintro e w' ⟨rfl, rfl⟩) | (go_at_call 34; refine hp.mono ?_; rintro e w' ⟨rfl, hfin⟩))
  go_end0
  exact ⟨rfl, hfin⟩

set_option maxRecDepth 100000 in
theorem age_remove_out (RB ro gb go : Nat) (W : World) (c7 : W.cell? ⟨gb, go + 7, none⟩ = some (.int .i64 0)) :
    Calls Yba.prog 31 #[ptr RB ro, ptr gb go] W fun e w' => e = .returned (.tuple #[]) ∧ w' = W := by
  have hm := at86
  simp [Yba.t86] at hm
  go_enter Yba.func31, Yba.ntmps31
  go_wp2_with (first | (go_at_call 85; refine (at_age _ _ _).mono ?_; rintro e w' ⟨rfl, rfl⟩))
  go_end0
  exact ⟨rfl, rfl⟩
end Go.Proofs.Ybulkdcoi
