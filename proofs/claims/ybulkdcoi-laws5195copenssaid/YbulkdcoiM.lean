/-
  THE CALL's OWN MEMORY, AS A FUNCTION: what each cell of its structs holds; stores and new blocks as turns of that function.
-/
import Derived.Test.YbulkdcoiProg
import Derived.WalkKit
import Derived.Stop.LaidErr
namespace Go.Proofs.Ybulkdcoi
open Go.RowKit
set_option linter.unusedVariables false

/-- What the cells hold, by block and offset. -/
abbrev Cel : Type := Nat → Nat → Option Value
def up (M : Cel) (b o : Nat) (v : Value) : Cel := fun b' o' => if b' = b ∧ o' = o then some v else M b' o'
def newB (M : Cel) (b : Nat) (cs : List Value) : Cel := fun b' o' => if b' = b then cs[o']? else M b' o'

theorem up_same (M : Cel) (b o : Nat) (v : Value) : up M b o v b o = some v := by simp [up]
theorem up_other (M : Cel) {b o b' o' : Nat} (v : Value) (h : b' ≠ b ∨ o' ≠ o) : up M b o v b' o' = M b' o' := by
  unfold up
  rw [if_neg]
  rintro ⟨rfl, rfl⟩
  rcases h with h | h <;> exact h rfl
theorem newB_same (M : Cel) (b o : Nat) (cs : List Value) : newB M b cs b o = cs[o]? := by simp [newB]
theorem newB_other (M : Cel) {b b' : Nat} (o : Nat) (cs : List Value) (h : b' ≠ b) : newB M b cs b' o = M b' o := by simp [newB, h]

/-- THE WORLD HOLDS M. -/
def Agr (W : World) (M : Cel) : Prop := ∀ b o v, M b o = some v → W.cell? ⟨b, o, none⟩ = some v ∧ W.frozen? ⟨b, o, none⟩ = false

/-- Block k is a plain row of n cells. -/
def Shp (W : World) (k n : Nat) (t : TypeId) : Prop := ∃ cs : Array Value, W.heap[k]? = some (.cells cs t (0, 0)) ∧ cs.size = n

/-- FROM W, M TO w', M': what M does not speak of lies as it lay. -/
structure Stp (W : World) (M : Cel) (w' : World) (M' : Cel) : Prop where
  agr : Agr w' M'
  os : w'.os = W.os
  tape : w'.tape = W.tape
  output : w'.output = W.output
  size : W.heap.size ≤ w'.heap.size
  block : ∀ k, k < W.heap.size → (∀ o, M k o = none) → w'.heap[k]? = W.heap[k]?
  fresh : ∀ b o, M' b o ≠ none → M b o ≠ none ∨ W.heap.size ≤ b
  shape : ∀ k n t, Shp W k n t → Shp w' k n t

theorem Stp.refl {W : World} {M : Cel} (h : Agr W M) : Stp W M W M := ⟨h, rfl, rfl, rfl, Nat.le_refl _, fun _ _ _ => rfl, fun _ _ h => Or.inl h, fun _ _ _ h => h⟩

theorem Stp.trans {W w1 w2 : World} {M M1 M2 : Cel} (h : Stp W M w1 M1) (k : Stp w1 M1 w2 M2) : Stp W M w2 M2 :=
  ⟨k.agr, k.os.trans h.os, k.tape.trans h.tape, k.output.trans h.output, Nat.le_trans h.size k.size,
    fun b hb hn => (k.block b (Nat.lt_of_lt_of_le hb h.size) (fun o => by
      cases e : M1 b o with
      | none => rfl
      | some v =>
        rcases h.fresh b o (by rw [e]; simp) with h' | h'
        · exact absurd (hn o) h'
        · omega)).trans (h.block b hb hn),
    fun b o hm => by
      rcases k.fresh b o hm with h' | h'
      · exact h.fresh b o h'
      · exact Or.inr (Nat.le_trans h.size h'), fun k' n t hs => k.shape k' n t (h.shape k' n t hs)⟩

theorem Agr.lt {W : World} {M : Cel} (h : Agr W M) {b o : Nat} {v : Value} (hm : M b o = some v) : b < W.heap.size := World.block_lt_of_cell? _ _ (h b o v hm).1

theorem Shp.set {W : World} {k n : Nat} {t : TypeId} (h : Shp W k n t) (b o : Nat) (v : Value) : Shp (W.setCell ⟨b, o, none⟩ v) k n t := by
  obtain ⟨cs, hc, hn⟩ := h
  by_cases e : k = b
  · subst e
    exact ⟨_, heap_setCell_same W k o cs t v hc, by simp [hn]⟩
  · exact ⟨cs, (heap_setCell_other W ⟨b, o, none⟩ k v e).trans hc, hn⟩

theorem Stp.set {W w1 : World} {M M1 : Cel} (h : Stp W M w1 M1) {b o : Nat} {u : Value} (hm : M1 b o = some u) (v : Value) : Stp W M (w1.setCell ⟨b, o, none⟩ v) (up M1 b o v) :=
  h.trans ⟨fun b' o' v' hv => by
    by_cases e : b' = b ∧ o' = o
    · obtain ⟨rfl, rfl⟩ := e
      rw [up_same] at hv
      cases hv
      exact ⟨World.cell?_setCell_same _ _ _ (h.agr _ _ _ hm).1, by simp [(h.agr _ _ _ hm).2]⟩
    · have hd : b' ≠ b ∨ o' ≠ o := by
        by_cases e1 : b' = b
        · exact Or.inr fun e2 => e ⟨e1, e2⟩
        · exact Or.inl e1
      rw [up_other M1 v hd] at hv
      refine ⟨(World.cell?_setCell_other _ _ _ _ ?_).trans (h.agr _ _ _ hv).1, by simp [(h.agr _ _ _ hv).2]⟩
      intro e'
      cases e'
      exact e ⟨rfl, rfl⟩, rfl, rfl, rfl, by simp, fun k hk hn => by
    have : k ≠ b := fun e => by
      subst e
      rw [hn o] at hm
      cases hm
    exact heap_setCell_other w1 ⟨b, o, none⟩ k v this, fun b' o' hv => by
    by_cases e : b' = b ∧ o' = o
    · obtain ⟨rfl, rfl⟩ := e
      exact Or.inl (by rw [hm]; simp)
    · unfold up at hv
      rw [if_neg e] at hv
      exact Or.inl hv, fun k n t hs => Shp.set hs b o v⟩

theorem Stp.new {W w1 : World} {M M1 : Cel} (h : Stp W M w1 M1) (cs : Array Value) (t : TypeId) : Stp W M (w1.alloc (.cells cs t)) (newB M1 w1.heap.size cs.toList) :=
  h.trans ⟨fun b o v hv => by
    by_cases e : b = w1.heap.size
    · subst e
      rw [newB_same] at hv
      have he : cs[o]? = some v := by simpa using hv
      exact ⟨(World.cell?_alloc_at cs t _ o rfl).trans he, World.frozen?_alloc_at cs t _ o rfl⟩
    · rw [newB_other M1 o cs.toList e] at hv
      exact ⟨cell?_alloc_old _ (h.agr _ _ _ hv).1, by rw [World.frozen?_alloc_old _ _ _ e]; exact (h.agr _ _ _ hv).2⟩, rfl, rfl, rfl, by simp, fun k hk _ => heap_alloc_old w1 _ hk, fun b o hv => by
    by_cases e : b = w1.heap.size
    · exact Or.inr (by omega)
    · rw [newB_other M1 o cs.toList e] at hv
      exact Or.inl hv, fun k n t' hs => by
    obtain ⟨c, hc, hn⟩ := hs
    have hk : k < w1.heap.size := by
      rcases Nat.lt_or_ge k w1.heap.size with hlt | hge
      · exact hlt
      · rw [Array.getElem?_eq_none hge] at hc; cases hc
    exact ⟨c, (heap_alloc_old w1 _ hk).trans hc, hn⟩⟩
theorem Stp.drew {W w1 : World} {M M1 : Cel} (h : Stp W M w1 M1) : Stp W M w1.drew M1 := ⟨h.agr, h.os, h.tape, h.output, h.size, h.block, h.fresh, h.shape⟩
end Go.Proofs.Ybulkdcoi
