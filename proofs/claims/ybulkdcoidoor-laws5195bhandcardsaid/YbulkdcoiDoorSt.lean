/-
  THE LAW's WORLD IN THE NAMED CASE, told by its cells: before 'hand', and behind it.
-/
import Derived.Test.YbulkdcoiDoorLaw
namespace Go.Proofs.YbulkdcoiDoor
open Go.RowKit Go.MuLone

/-- WHAT THE LAW ASKS OF THE WORLD behind 'hand' (and before it): the reading R, the connection C, its group G, the map M. -/
structure St (w W : World) (R C G M : Nat) (room nsz : Int) (shed : ByteArray) (ev cv gv : Value) (D : DataW Unit) : Prop where
  lock : W.cell? ⟨R, 0, none⟩ = some (.int .i32 0)
  lockz : W.frozen? ⟨R, 0, none⟩ = false
  rsize : W.cell? ⟨R, 2, none⟩ = some (.int .i64 room)
  rmap : W.cell? ⟨R, 3, none⟩ = some (.map (some M))
  csize : W.cell? ⟨C, 42, none⟩ = some (.int .i64 room)
  cc : W.cell? ⟨C, 43, none⟩ = some cv
  cg : W.cell? ⟨C, 44, none⟩ = some gv
  cshed : W.cell? ⟨C, 55, none⟩ = some (.string shed)
  gsize : W.cell? ⟨G, 1, none⟩ = some (.int .i64 nsz)
  sent : W.cell? ⟨0, 0, none⟩ = some ev
  own : W.ownsMap Ybad.prog 9 (rdGrp G) M 1 D
  bel : Below w.heap.size w W

/-- .. and what 'hand' asks besides. -/
structure St0 (w W : World) (R C G M : Nat) (room nsz : Int) (shed name : ByteArray) (ev : Value) (D : DataW Unit) : Prop where
  st : St w W R C G M room nsz shed ev (.pointer (some ⟨C, 0, none⟩)) (.pointer (some ⟨G, 0, none⟩)) D
  celem : W.cell? ⟨C, 45, none⟩ = some (.pointer none)
  gname : W.cell? ⟨G, 0, none⟩ = some (.string name)
  glen : W.cell? ⟨G, 6, none⟩ = some (.int .i64 0)
  grank : W.cell? ⟨G, 7, none⟩ = some (.int .i64 0)
  z0 : W.frozen? ⟨C, 43, none⟩ = false
  z1 : W.frozen? ⟨C, 44, none⟩ = false
  z2 : W.frozen? ⟨G, 1, none⟩ = false

theorem same_cell {w : World} {a : Addr} {v x : Value} (h : w.cell? a = some x) : (w.setCell a v).cell? a = some v := World.cell?_setCell_same w a v h

/-- THE WORLD THAT THE LAW HAS BUILT, the map just made. -/
theorem st0_of {f : World → World} {w W0 : World} {R C G M : Nat} {room n : Int} {shed name : ByteArray} {ev : Value} {D : DataW Unit} (hM : M = W0.heap.size)
    (hT : (W0.alloc (.map #[] 0)).mapTurned (f W0) W0.heap.size) (hown : (f W0).ownsMap Ybad.prog 9 (rdGrp G) W0.heap.size 1 D) (hb : Below w.heap.size w W0)
    (hR : R < W0.heap.size) (hC : C < W0.heap.size) (hG : G < W0.heap.size) (hRC : R ≠ C) (hRG : R ≠ G) (hGC : G ≠ C) (h0 : 0 < w.heap.size) (hwR : w.heap.size ≤ R) (hwC : w.heap.size ≤ C) (hwG : w.heap.size ≤ G)
    (c0 : W0.cell? ⟨R, 0, none⟩ = some (.int .i32 0)) (c1 : W0.cell? ⟨R, 2, none⟩ = some (.int .i64 room)) (c2 : ∃ v, W0.cell? ⟨R, 3, none⟩ = some v) (c3 : W0.cell? ⟨C, 42, none⟩ = some (.int .i64 room))
    (c4 : ∃ v, W0.cell? ⟨C, 43, none⟩ = some v) (c5 : ∃ v, W0.cell? ⟨C, 44, none⟩ = some v) (c6 : W0.cell? ⟨C, 55, none⟩ = some (.string shed)) (c7 : ∃ v, W0.cell? ⟨G, 1, none⟩ = some v) (c8 : W0.cell? ⟨0, 0, none⟩ = some ev)
    (c9 : W0.cell? ⟨C, 45, none⟩ = some (.pointer none)) (d0 : W0.cell? ⟨G, 0, none⟩ = some (.string name)) (d1 : W0.cell? ⟨G, 6, none⟩ = some (.int .i64 0)) (d2 : W0.cell? ⟨G, 7, none⟩ = some (.int .i64 0))
    (z0 : W0.frozen? ⟨R, 0, none⟩ = false) (z1 : W0.frozen? ⟨C, 43, none⟩ = false) (z2 : W0.frozen? ⟨C, 44, none⟩ = false) (z3 : W0.frozen? ⟨G, 1, none⟩ = false) :
    St0 w (((((f W0).setCell ⟨R, 3, none⟩ (.map (some M))).setCell ⟨G, 1, none⟩ (.int .i64 n)).setCell ⟨C, 43, none⟩ (.pointer (some ⟨C, 0, none⟩))).setCell ⟨C, 44, none⟩ (.pointer (some ⟨G, 0, none⟩))) R C G M room n shed name ev D := by
  subst hM
  have h00 : 0 < W0.heap.size := Nat.lt_of_lt_of_le h0 hb.size
  have k : ∀ b o, b < W0.heap.size → (f W0).cell? ⟨b, o, none⟩ = W0.cell? ⟨b, o, none⟩ := fun b o hb' => (made_cell hT b o hb').1
  have kz : ∀ b o, b < W0.heap.size → (f W0).frozen? ⟨b, o, none⟩ = W0.frozen? ⟨b, o, none⟩ := fun b o hb' => (made_cell hT b o hb').2
  obtain ⟨v2, c2⟩ := c2
  obtain ⟨v4, c4⟩ := c4
  obtain ⟨v5, c5⟩ := c5
  obtain ⟨v7, c7⟩ := c7
  have hCR : C ≠ R := fun e => hRC e.symm
  have hGR : G ≠ R := fun e => hRG e.symm
  have hCG : C ≠ G := fun e => hGC e.symm
  have n0R : R ≠ 0 := by omega
  have n0C : C ≠ 0 := by omega
  have n0G : G ≠ 0 := by omega
  have hwb : Below w.heap.size w (f W0) := made_below hT hb
  -- a cell that none of the four stores touches
  have far : ∀ {b o : Nat} {v : Value}, b < W0.heap.size → W0.cell? ⟨b, o, none⟩ = some v → (R ≠ b ∨ 3 ≠ o) → (G ≠ b ∨ 1 ≠ o) → (C ≠ b ∨ 43 ≠ o) → (C ≠ b ∨ 44 ≠ o) →
      (((((f W0).setCell ⟨R, 3, none⟩ (.map (some W0.heap.size))).setCell ⟨G, 1, none⟩ (.int .i64 n)).setCell ⟨C, 43, none⟩ (.pointer (some ⟨C, 0, none⟩))).setCell ⟨C, 44, none⟩ (.pointer (some ⟨G, 0, none⟩))).cell? ⟨b, o, none⟩ = some v :=
    fun hb' h e1 e2 e3 e4 => other_cell (other_cell (other_cell (other_cell ((k _ _ hb').trans h) (addr_ne e1)) (addr_ne e2)) (addr_ne e3)) (addr_ne e4)
  refine ⟨⟨far hR c0 (Or.inr (by decide)) (Or.inl hGR) (Or.inl hCR) (Or.inl hCR), by simp [kz _ _ hR, z0], far hR c1 (Or.inr (by decide)) (Or.inl hGR) (Or.inl hCR) (Or.inl hCR), ?_, far hC c3 (Or.inl hRC) (Or.inl hGC) (Or.inr (by decide)) (Or.inr (by decide)), ?_, ?_,
    far hC c6 (Or.inl hRC) (Or.inl hGC) (Or.inr (by decide)) (Or.inr (by decide)), ?_, far h00 c8 (Or.inl n0R) (Or.inl n0G) (Or.inl n0C) (Or.inl n0C), ?_, ?_⟩,
    far hC c9 (Or.inl hRC) (Or.inl hGC) (Or.inr (by decide)) (Or.inr (by decide)), far hG d0 (Or.inl hRG) (Or.inr (by decide)) (Or.inl hCG) (Or.inl hCG), far hG d1 (Or.inl hRG) (Or.inr (by decide)) (Or.inl hCG) (Or.inl hCG), far hG d2 (Or.inl hRG) (Or.inr (by decide)) (Or.inl hCG) (Or.inl hCG),
    by simp [kz _ _ hC, z1], by simp [kz _ _ hC, z2], by simp [kz _ _ hG, z3]⟩
  · exact other_cell (other_cell (other_cell (same_cell ((k _ _ hR).trans c2)) (addr_ne (Or.inl hGR))) (addr_ne (Or.inl hCR))) (addr_ne (Or.inl hCR))
  · exact other_cell (same_cell (other_cell (other_cell ((k _ _ hC).trans c4) (addr_ne (Or.inl hRC))) (addr_ne (Or.inl hGC)))) (addr_ne (Or.inr (by decide)))
  · exact same_cell (other_cell (other_cell (other_cell ((k _ _ hC).trans c5) (addr_ne (Or.inl hRC))) (addr_ne (Or.inl hGC))) (addr_ne (Or.inr (by decide))))
  · exact other_cell (other_cell (same_cell (other_cell ((k _ _ hG).trans c7) (addr_ne (Or.inl hRG)))) (addr_ne (Or.inl hCG))) (addr_ne (Or.inl hCG))
  · exact (((hown.setCell (a := ⟨R, 3, none⟩) (by exact Nat.ne_of_gt hR) _).setCell (a := ⟨G, 1, none⟩) (by exact Nat.ne_of_gt hG) _).setCell (a := ⟨C, 43, none⟩) (by exact Nat.ne_of_gt hC) _).setCell (a := ⟨C, 44, none⟩) (by exact Nat.ne_of_gt hC) _
  · exact (((hwb.setCell (p := ⟨R, 3, none⟩) hwR _).setCell (p := ⟨G, 1, none⟩) hwG _).setCell (p := ⟨C, 43, none⟩) hwC _).setCell (p := ⟨C, 44, none⟩) hwC _
end Go.Proofs.YbulkdcoiDoor
