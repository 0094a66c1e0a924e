/-
  (*wayQueue).add: a connection in a named group that is new: the two walks (the map there, the map nil).
-/
import Derived.Test.YbulkdcoiAd2
namespace Go.Proofs.Ybulkdcoi
open Go.RowKit
set_option linter.unusedVariables false

/-- A new way group's cells. -/
abbrev wayCells (s : ByteArray) : Array Value := #[.string s, .int .i64 0, .pointer none, .pointer none, .pointer none, .nilIface, .int .i64 0, .int .i64 0]

/-- The cells that the tail's stores want. -/
structure St5 (w : World) (cb gb P i : Nat) : Prop where
  e20 : ∃ v, w.cell? ⟨cb, 20, none⟩ = some v
  z20 : w.frozen? ⟨cb, 20, none⟩ = false
  e21 : ∃ v, w.cell? ⟨cb, 21, none⟩ = some v
  z21 : w.frozen? ⟨cb, 21, none⟩ = false
  e23 : ∃ v, w.cell? ⟨cb, 23, none⟩ = some v
  z23 : w.frozen? ⟨cb, 23, none⟩ = false
  e1 : w.cell? ⟨gb, 1, none⟩ = some (.int .i64 0)
  z1 : w.frozen? ⟨gb, 1, none⟩ = false
  e8 : w.cell? ⟨P, 8, none⟩ = some (.int .u64 i)
  z8 : w.frozen? ⟨P, 8, none⟩ = false

def TailC (w2 : World) (P cb gb i : Nat) (Q : World → Prop) : Prop :=
  Calls Yba.prog 21 #[ptr gb 2, .iface 139 (ptr cb 20)] (((((w2.setCell ⟨cb, 20, none⟩ (ptr cb 0)).setCell ⟨cb, 21, none⟩ (ptr gb 0)).setCell ⟨gb, 1, none⟩ (.int .i64 1)).setCell ⟨cb, 23, none⟩ (.int .u64 i)).setCell ⟨P, 8, none⟩ (.int .u64 ((i : Int) + 1))) fun e w1 =>
      e = .returned (ptr w2.heap.size 0) ∧ (∃ v, w1.cell? ⟨cb, 22, none⟩ = some v) ∧ w1.frozen? ⟨cb, 22, none⟩ = false ∧
      Calls Yba.prog 28 #[ptr P 6, ptr gb 0] (w1.setCell ⟨cb, 22, none⟩ (ptr w2.heap.size 0)) fun e w' => e = .returned (.tuple #[]) ∧ Q w'

set_option maxRecDepth 100000 in
set_option maxHeartbeats 2000000 in
theorem add_new_c (W : World) (P cb mb i : Nat) (s : ByteArray) (Q : World → Prop) (hi : i ≤ 1000) (hPc : P ≠ cb)
     (hs : s.toList.isEmpty = false) (d3 : W.cell? ⟨cb, 3, none⟩ = some (.string s)) (d6 : W.cell? ⟨P, 6, none⟩ = some (.map (some mb)))
    (hlook : ∀ q, (Instr.lookup 122 (.map (some mb)) (.string s) false).run Yba.prog (W.drewN q) = .ok (.pointer none) (W.drewN q)) (lc : cb < W.heap.size) (lP : P < W.heap.size)
    (hall : ∀ q, ∃ w2, (Instr.mapUpdate 122 (.map (some mb)) (.string s) (ptr W.heap.size 0)).run Yba.prog (((W.drewN q).alloc (.cells (wayCells s) 99)).drew) = .ok () w2 ∧ St5 w2 cb W.heap.size P i ∧ TailC w2 P cb W.heap.size i Q) :
    Calls Yba.prog 20 #[ptr P 6, ptr cb 20, ptr cb 0] W fun e w' => e = .returned (.tuple #[]) ∧ Q w' := by
  have hcP : cb ≠ P := fun e => hPc e.symm
  have hem := eqlm_some
  go_enter Yba.func20, Yba.ntmps20
  go_wp2_with fail
  go_quiet (fail)
  go_wp2_with fail
  obtain ⟨w2, hmu, h5, htc⟩ := hall nq
  clear hall hlook
  have a3 : ((W.drewN nq).alloc (.cells (wayCells s) 99)).cell? ⟨cb, 3, none⟩ = some (.string s) := cell?_alloc_old _ d3
  have a6 : ((W.drewN nq).alloc (.cells (wayCells s) 99)).cell? ⟨P, 6, none⟩ = some (.map (some mb)) := cell?_alloc_old _ d6
  have hgc : W.heap.size ≠ cb := by omega
  have hcg : cb ≠ W.heap.size := by omega
  have hgP : W.heap.size ≠ P := by omega
  have hPg : P ≠ W.heap.size := by omega
  clear lc lP
  generalize ((W.drewN nq).alloc (.cells (wayCells s) 99)) = Wa at *
  go_region
  obtain ⟨⟨v20, e20⟩, z20, ⟨v21, e21⟩, z21, ⟨v23, e23⟩, z23, e1, z1, e8, z8⟩ := h5
  unfold TailC at htc
  generalize W.heap.size = gb at *
  go_wp2_with (first | (go_at_call 21; refine htc.mono ?_; rintro e w1 ⟨rfl, ⟨v22, k22⟩, y22, hrr⟩; clear htc) | (go_at_call 28; refine hrr.mono ?_; rintro e w' ⟨rfl, hq⟩))
  go_end0
  exact ⟨rfl, hq⟩

set_option maxRecDepth 100000 in
set_option maxHeartbeats 2000000 in
theorem add_new_d (W W0 : World) (P cb i : Nat) (s : ByteArray) (Q : World → Prop) (hi : i ≤ 1000) (hPc : P ≠ cb) (hW0 : W0 = (W.setCell ⟨P, 6, none⟩ (.map (some W.heap.size))).alloc (.map #[] 0))
     (hs : s.toList.isEmpty = false) (d3 : W.cell? ⟨cb, 3, none⟩ = some (.string s)) (d6 : W.cell? ⟨P, 6, none⟩ = some (.map none)) (f6 : W.frozen? ⟨P, 6, none⟩ = false)
    (hlook : ∀ q, (Instr.lookup 122 (.map (some W.heap.size)) (.string s) false).run Yba.prog (W0.drewN q) = .ok (.pointer none) (W0.drewN q)) (lc : cb < W.heap.size) (lP : P < W.heap.size)
    (hall : ∀ q, ∃ w2, (Instr.mapUpdate 122 (.map (some W.heap.size)) (.string s) (ptr W0.heap.size 0)).run Yba.prog (((W0.drewN q).alloc (.cells (wayCells s) 99)).drew) = .ok () w2 ∧ St5 w2 cb W0.heap.size P i ∧ TailC w2 P cb W0.heap.size i Q) :
    Calls Yba.prog 20 #[ptr P 6, ptr cb 20, ptr cb 0] W fun e w' => e = .returned (.tuple #[]) ∧ Q w' := by
  have hcP : cb ≠ P := fun e => hPc e.symm
  have hem := eqlm_none
  have hmm := @run_makeMap Yba.prog
  have b3 : W0.cell? ⟨cb, 3, none⟩ = some (.string s) := by
    rw [hW0]
    exact cell?_alloc_old _ ((World.cell?_setCell_other _ _ _ _ (by intro e; cases e)).trans d3)
  have b6 : W0.cell? ⟨P, 6, none⟩ = some (.map (some W.heap.size)) := by
    rw [hW0]
    exact cell?_alloc_old _ (World.cell?_setCell_same _ _ _ d6)
  have sz0 : W0.heap.size = W.heap.size + 1 := by rw [hW0]; simp
  have a6 : (W.alloc (.map #[] 0)).cell? ⟨P, 6, none⟩ = some (.map none) := cell?_alloc_old _ d6
  have y6 : (W.alloc (.map #[] 0)).frozen? ⟨P, 6, none⟩ = false := by rw [World.frozen?_alloc_old _ _ _ (Nat.ne_of_lt lP)]; exact f6
  have lc0 : cb < W0.heap.size := by omega
  have lP0 : P < W0.heap.size := by omega
  go_enter Yba.func20, Yba.ntmps20
  go_wp2_with fail
  rw [← hW0]
  generalize W.heap.size = mb at *
  clear d3 d6 f6 lc lP sz0 hmm hW0 a6 y6
  go_quiet (fail)
  go_wp2_with fail
  obtain ⟨w2, hmu, h5, htc⟩ := hall nq
  clear hall hlook
  have a3 : ((W0.drewN nq).alloc (.cells (wayCells s) 99)).cell? ⟨cb, 3, none⟩ = some (.string s) := cell?_alloc_old _ b3
  have a6 : ((W0.drewN nq).alloc (.cells (wayCells s) 99)).cell? ⟨P, 6, none⟩ = some (.map (some mb)) := cell?_alloc_old _ b6
  have hgc : W0.heap.size ≠ cb := by omega
  have hcg : cb ≠ W0.heap.size := by omega
  have hgP : W0.heap.size ≠ P := by omega
  have hPg : P ≠ W0.heap.size := by omega
  clear lc0 lP0
  generalize ((W0.drewN nq).alloc (.cells (wayCells s) 99)) = Wa at *
  go_region
  obtain ⟨⟨v20, e20⟩, z20, ⟨v21, e21⟩, z21, ⟨v23, e23⟩, z23, e1, z1, e8, z8⟩ := h5
  unfold TailC at htc
  generalize W0.heap.size = gb at *
  go_wp2_with (first | (go_at_call 21; refine htc.mono ?_; rintro e w1 ⟨rfl, ⟨v22, k22⟩, y22, hrr⟩; clear htc) | (go_at_call 28; refine hrr.mono ?_; rintro e w' ⟨rfl, hq⟩))
  go_end0
  exact ⟨rfl, hq⟩
end Go.Proofs.Ybulkdcoi
