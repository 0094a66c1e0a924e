/-
  (*inboundPlaces).open AND keepOldest: the walks.
-/
import Derived.Test.YbulkdcoiSp
import Derived.Test.YbulkdcoiHAa
namespace Go.Proofs.Ybulkdcoi
open Go.RowKit
set_option linter.unusedVariables false

/-- A new age group's cells. -/
abbrev ageCells (s : ByteArray) : Array Value := #[.string s, .pointer none, .pointer none, .pointer none, .nilIface, .int .i64 0, .bool false, .int .i64 0]

structure St4 (w : World) (cb P i : Nat) : Prop where
  e8 : ∃ v, w.cell? ⟨cb, 8, none⟩ = some v
  z8 : w.frozen? ⟨cb, 8, none⟩ = false
  e9 : ∃ v, w.cell? ⟨cb, 9, none⟩ = some v
  z9 : w.frozen? ⟨cb, 9, none⟩ = false
  e11 : ∃ v, w.cell? ⟨cb, 11, none⟩ = some v
  z11 : w.frozen? ⟨cb, 11, none⟩ = false
  e5 : w.cell? ⟨P, 5, none⟩ = some (.int .u64 i)
  z5 : w.frozen? ⟨P, 5, none⟩ = false

/-- Behind PushBack and the store of the element: one of a group that was there. -/
def ATailO (w : World) (P cb gb go i n : Nat) (Q : World → Prop) : Prop :=
  Calls Yba.prog 21 #[ptr gb (go + 1), .iface 131 (ptr cb 8)] ((((w.setCell ⟨cb, 8, none⟩ (ptr cb 0)).setCell ⟨cb, 9, none⟩ (ptr gb go)).setCell ⟨cb, 11, none⟩ (.int .u64 i)).setCell ⟨P, 5, none⟩ (.int .u64 ((i : Int) + 1))) fun e w2 =>
    ∃ H, e = .returned (ptr H 0) ∧ (∃ v, w2.cell? ⟨cb, 10, none⟩ = some v) ∧ w2.frozen? ⟨cb, 10, none⟩ = false ∧ ∃ w3, w3 = w2.setCell ⟨cb, 10, none⟩ (ptr H 0) ∧ w3.cell? ⟨gb, go + 1 + 4, none⟩ = some (.int .i64 n) ∧ Q w3
/-- .. the first of a new group. -/
def ATailN (w : World) (P cb gb go i kc K : Nat) (Q : World → Prop) : Prop :=
  Calls Yba.prog 21 #[ptr gb (go + 1), .iface 131 (ptr cb 8)] ((((w.setCell ⟨cb, 8, none⟩ (ptr cb 0)).setCell ⟨cb, 9, none⟩ (ptr gb go)).setCell ⟨cb, 11, none⟩ (.int .u64 i)).setCell ⟨P, 5, none⟩ (.int .u64 ((i : Int) + 1))) fun e w2 =>
    ∃ H, e = .returned (ptr H 0) ∧ (∃ v, w2.cell? ⟨cb, 10, none⟩ = some v) ∧ w2.frozen? ⟨cb, 10, none⟩ = false ∧ ∃ w3, w3 = w2.setCell ⟨cb, 10, none⟩ (ptr H 0) ∧ w3.cell? ⟨gb, go + 1 + 4, none⟩ = some (.int .i64 1) ∧ w3.cell? ⟨P, 2, none⟩ = some (.int .i64 kc) ∧ w3.cell? ⟨P, 1, none⟩ = some (.int .i64 K) ∧
      ∀ q, (kc < K → Calls Yba.prog 22 #[ptr P 0, ptr gb go] (w3.drewN q) fun e w' => e = .returned (.tuple #[]) ∧ Q w') ∧ (K ≤ kc → Calls Yba.prog 23 #[ptr P 4, ptr gb go] (w3.drewN q) fun e w' => e = .returned (.tuple #[]) ∧ Q w')

set_option maxRecDepth 100000 in
set_option maxHeartbeats 4000000 in
theorem open_own (W : World) (P cb i kc K : Nat) (Q : World → Prop) (hi : i ≤ 1000) (hPc : P ≠ cb) (hK : kc < K ∨ K ≤ kc) (e0 : W.cell? ⟨P, 0, none⟩ = some (.int .i64 i)) (z0 : W.frozen? ⟨P, 0, none⟩ = false)
    (hadd : Calls Yba.prog 20 #[ptr P 6, ptr cb 20, ptr cb 0] (W.setCell ⟨P, 0, none⟩ (.int .i64 ((i : Int) + 1))).drew fun e w1 => e = .returned (.tuple #[]) ∧ w1.cell? ⟨cb, 3, none⟩ = some (.string ⟨#[]⟩) ∧ St4 w1 cb P i ∧ ATailN w1 P cb cb 12 i kc K Q) :
    Calls Yba.prog 11 #[ptr P 0, ptr cb 0] W fun e w' => e = .returned (.tuple #[]) ∧ Q w' := by
  have hcP : cb ≠ P := fun e => hPc e.symm
  go_enter Yba.func11, Yba.ntmps11
  go_wp2_with fail
  go_region_with (go_at_call 20; refine hadd.mono ?_; rintro e w1 ⟨rfl, a3, ⟨⟨v8, e8⟩, z8, ⟨v9, e9⟩, z9, ⟨v11, e11⟩, z11, e5, z5⟩, htl⟩; unfold ATailN at htl; clear hadd e0 z0)
  all_goals (go_wp2_with (first | (go_at_call 21; refine htl.mono ?_; rintro e w2 ⟨H, rfl, ⟨v10, k10⟩, y10, w3, hw3, k17, k2, k1, hrest⟩; clear htl)))
  all_goals (rw [← hw3]; clear hw3)
  all_goals (have hln := len_walk cb 13 1 w3 k17)
  all_goals (go_wp2_with (first | (go_at_call 14; refine hln.mono ?_; rintro e w' ⟨rfl, hwe⟩; subst hwe)))
  all_goals (clear hln)
  all_goals (rcases hK with hb | hb)
  · have hz : (kc : Int) < (K : Int) := by omega
    go_quiet (fail)
    go_wp2_with (first | (go_at_call 22; refine ((hrest _).1 hb).mono ?_; rintro e w' ⟨rfl, hq⟩))
    go_end0
    exact ⟨rfl, hq⟩
  · have hz : ¬ ((kc : Int) < (K : Int)) := by omega
    go_quiet (fail)
    go_wp2_with (first | (go_at_call 23; refine ((hrest _).2 hb).mono ?_; rintro e w' ⟨rfl, hq⟩))
    go_end0
    exact ⟨rfl, hq⟩

set_option maxRecDepth 100000 in
set_option maxHeartbeats 4000000 in
theorem open_old (W : World) (P cb gb i n m1 : Nat) (s : ByteArray) (Q : World → Prop) (hi : i ≤ 1000) (hPc : P ≠ cb) (hs : s.toList.isEmpty = false) (hn : 1 < n) (hn2 : n ≤ 1000) (e0 : W.cell? ⟨P, 0, none⟩ = some (.int .i64 i)) (z0 : W.frozen? ⟨P, 0, none⟩ = false)
    (hadd : Calls Yba.prog 20 #[ptr P 6, ptr cb 20, ptr cb 0] (W.setCell ⟨P, 0, none⟩ (.int .i64 ((i : Int) + 1))).drew fun e w1 => e = .returned (.tuple #[]) ∧ w1.cell? ⟨cb, 3, none⟩ = some (.string s) ∧ w1.cell? ⟨P, 3, none⟩ = some (.map (some m1)) ∧
      (∀ q, (Instr.lookup 118 (.map (some m1)) (.string s) false).run Yba.prog (w1.drewN q) = .ok (ptr gb 0) (w1.drewN q)) ∧ St4 w1 cb P i ∧ ∀ q, ATailO (w1.drewN q) P cb gb 0 i n Q) :
    Calls Yba.prog 11 #[ptr P 0, ptr cb 0] W fun e w' => e = .returned (.tuple #[]) ∧ Q w' := by
  have hcP : cb ≠ P := fun e => hPc e.symm
  have hnz : (1 : Int) < (n : Int) := by omega
  go_enter Yba.func11, Yba.ntmps11
  go_wp2_with fail
  go_region_with (go_at_call 20; refine hadd.mono ?_; rintro e w1 ⟨rfl, a3, a33, hlk, ⟨⟨v8, e8⟩, z8, ⟨v9, e9⟩, z9, ⟨v11, e11⟩, z11, e5, z5⟩, htl⟩; unfold ATailO at htl; clear hadd e0 z0)
  all_goals (go_wp2_with fail)
  all_goals (go_quiet (fail))
  all_goals (go_wp2_with (first | (go_at_call 21; refine (htl _).mono ?_; rintro e w2 ⟨H, rfl, ⟨v10, k10⟩, y10, w3, hw3, k17, hfin⟩; clear htl)))
  all_goals (rw [← hw3]; clear hw3)
  all_goals (have hln := len_walk gb 1 _ w3 k17)
  all_goals (go_wp2_with (first | (go_at_call 14; refine hln.mono ?_; rintro e w' ⟨rfl, hwe⟩; subst hwe)))
  all_goals go_end0
  all_goals exact ⟨rfl, hfin⟩

set_option maxRecDepth 100000 in
set_option maxHeartbeats 4000000 in
theorem open_new (W : World) (P cb i m1 kc K : Nat) (s : ByteArray) (Q : World → Prop) (hi : i ≤ 1000) (hPc : P ≠ cb) (hs : s.toList.isEmpty = false) (hK : kc < K ∨ K ≤ kc) (e0 : W.cell? ⟨P, 0, none⟩ = some (.int .i64 i)) (z0 : W.frozen? ⟨P, 0, none⟩ = false)
    (hadd : Calls Yba.prog 20 #[ptr P 6, ptr cb 20, ptr cb 0] (W.setCell ⟨P, 0, none⟩ (.int .i64 ((i : Int) + 1))).drew fun e w1 => e = .returned (.tuple #[]) ∧ w1.cell? ⟨cb, 3, none⟩ = some (.string s) ∧ w1.cell? ⟨P, 3, none⟩ = some (.map (some m1)) ∧ cb < w1.heap.size ∧ P < w1.heap.size ∧
      (∀ q, (Instr.lookup 118 (.map (some m1)) (.string s) false).run Yba.prog (w1.drewN q) = .ok (.pointer none) (w1.drewN q)) ∧
      ∀ q, ∃ w2, (Instr.mapUpdate 118 (.map (some m1)) (.string s) (ptr w1.heap.size 0)).run Yba.prog (((w1.drewN q).alloc (.cells (ageCells s) 94)).drew) = .ok () w2 ∧ St4 w2 cb P i ∧ ATailN w2 P cb w1.heap.size 0 i kc K Q) :
    Calls Yba.prog 11 #[ptr P 0, ptr cb 0] W fun e w' => e = .returned (.tuple #[]) ∧ Q w' := by
  have hcP : cb ≠ P := fun e => hPc e.symm
  go_enter Yba.func11, Yba.ntmps11
  go_wp2_with fail
  go_region_with (go_at_call 20; refine hadd.mono ?_; rintro e w1 ⟨rfl, a3, a33, lc, lP, hlk, hall⟩; clear hadd e0 z0)
  all_goals (go_wp2_with fail)
  all_goals (go_quiet (fail))
  all_goals (go_wp2_with fail)
  all_goals (obtain ⟨w2, hmu, ⟨⟨v8, e8⟩, z8, ⟨v9, e9⟩, z9, ⟨v11, e11⟩, z11, e5, z5⟩, htl⟩ := hall nq; unfold ATailN at htl; clear hall hlk)
  all_goals (have b3 : ((w1.drewN nq).alloc (.cells (ageCells s) 94)).cell? ⟨cb, 3, none⟩ = some (.string s) := cell?_alloc_old _ a3)
  all_goals (have b33 : ((w1.drewN nq).alloc (.cells (ageCells s) 94)).cell? ⟨P, 3, none⟩ = some (.map (some m1)) := cell?_alloc_old _ a33)
  all_goals (have hgc : w1.heap.size ≠ cb := by omega)
  all_goals (have hcg : cb ≠ w1.heap.size := by omega)
  all_goals (have hgP : w1.heap.size ≠ P := by omega)
  all_goals (have hPg : P ≠ w1.heap.size := by omega)
  all_goals (clear lc lP)
  all_goals (generalize ((w1.drewN nq).alloc (.cells (ageCells s) 94)) = Wa at *)
  all_goals (go_region)
  all_goals (generalize w1.heap.size = gb at *)
  all_goals (go_wp2_with (first | (go_at_call 21; refine htl.mono ?_; rintro e w2' ⟨H, rfl, ⟨v10, k10⟩, y10, w3, hw3, k17, k2, k1, hrest⟩; clear htl)))
  all_goals (rw [← hw3]; clear hw3)
  all_goals (have hln := len_walk gb 1 1 w3 k17)
  all_goals (go_wp2_with (first | (go_at_call 14; refine hln.mono ?_; rintro e w' ⟨rfl, hwe⟩; subst hwe)))
  all_goals (clear hln)
  all_goals (rcases hK with hb | hb)
  · have hz : (kc : Int) < (K : Int) := by omega
    go_quiet (fail)
    go_wp2_with (first | (go_at_call 22; refine ((hrest _).1 hb).mono ?_; rintro e w' ⟨rfl, hq⟩))
    go_end0
    exact ⟨rfl, hq⟩
  · have hz : ¬ ((kc : Int) < (K : Int)) := by omega
    go_quiet (fail)
    go_wp2_with (first | (go_at_call 23; refine ((hrest _).2 hb).mono ?_; rintro e w' ⟨rfl, hq⟩))
    go_end0
    exact ⟨rfl, hq⟩

set_option maxRecDepth 100000 in
set_option maxHeartbeats 4000000 in
/-- keepOldest of a group of one. -/
theorem keep_raw (W : World) (P cb gb go kc e : Nat) (Q : World → Prop) (hk : kc ≤ 1000) (hgP : gb ≠ P) (z6 : W.frozen? ⟨gb, go + 6, none⟩ = false) (e6 : ∃ v, W.cell? ⟨gb, go + 6, none⟩ = some v) (e2 : W.cell? ⟨P, 2, none⟩ = some (.int .i64 kc)) (z2 : W.frozen? ⟨P, 2, none⟩ = false)
    (w2 : World) (hw2 : w2 = (W.setCell ⟨gb, go + 6, none⟩ (.bool true)).setCell ⟨P, 2, none⟩ (.int .i64 ((kc : Int) + 1)))
    (c7 : w2.cell? ⟨gb, go + 7, none⟩ = some (.int .i64 0)) (c1 : w2.cell? ⟨gb, go + 1, none⟩ = some (ptr e 0)) (c5 : w2.cell? ⟨gb, go + 1 + 4, none⟩ = some (.int .i64 1)) (ce : w2.cell? ⟨e, 3, none⟩ = some (.iface 131 (ptr cb 8))) (c8 : w2.cell? ⟨cb, 8, none⟩ = some (ptr cb 0))
    (hsp : Calls Yba.prog 32 #[ptr P 6, ptr cb 20] w2.drew fun e w' => e = .returned (.tuple #[]) ∧ Q w') :
    Calls Yba.prog 22 #[ptr P 0, ptr gb go] W fun e w' => e = .returned (.tuple #[]) ∧ Q w' := by
  obtain ⟨v6, e6⟩ := e6
  have hPg : P ≠ gb := fun e => hgP e.symm
  have ho := oldest_walk gb go e cb 8 1 w2.drew (by omega) c1 c5 ce
  have hro := age_remove_out P 4 gb go w2 c7
  go_enter Yba.func22, Yba.ntmps22
  go_wp2_with (first | (go_at_call 31; rw [← hw2]; refine hro.mono ?_; rintro e w' ⟨rfl, hwe⟩; subst hwe; clear hro hw2))
  go_region_with (first | (go_at_call 15; refine ho.mono ?_; rintro e w' ⟨rfl, hwe⟩; subst hwe) | (go_at_call 32; refine hsp.mono ?_; rintro e w' ⟨rfl, hq⟩))
  all_goals (go_wp2_with fail)
  all_goals go_end0
  all_goals exact ⟨rfl, hq⟩
end Go.Proofs.Ybulkdcoi
