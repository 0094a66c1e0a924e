/-
  zzs5195abuild's WORLDS, told by their cells.
-/
import Derived.Test.YbulkdcoiModel
namespace Go.Proofs.Ybulkdcoi
open Go.RowKit Go.Sort Go.Shelf Go.Lib
set_option linter.unusedVariables false

theorem info72 : Yba.prog.info? 72 = some Yba.t72 := by kernel_rfl
theorem zero72 : Yba.t72.zero = some (Yba.t72.zero.getD undef) := by kernel_rfl
theorem size72 : Yba.t72.size = 46 := by kernel_rfl
theorem bytes72 : Yba.t72.bytes = 104 := by kernel_rfl
theorem cells72 : (Yba.t72.zero.getD undef).cells.size = 46 := by kernel_rfl
theorem source72 : (Yba.t72.zero.getD undef).cells[34]! = .int .i32 0 := by kernel_rfl

theorem other_cell {w : World} {a b : Addr} {v x : Value} (h : w.cell? b = some x) (hab : a ≠ b) : (w.setCell a v).cell? b = some x := (World.cell?_setCell_other w a b v hab).trans h
theorem same_cell {w : World} {a : Addr} {v x : Value} (h : w.cell? a = some x) : (w.setCell a v).cell? a = some v := World.cell?_setCell_same w a v h
theorem addr_ne {b o b' o' : Nat} (h : b ≠ b' ∨ o ≠ o') : (⟨b, o, none⟩ : Addr) ≠ ⟨b', o', none⟩ := by
  intro e
  cases e
  rcases h with h | h <;> exact h rfl

/-- THE RECORDS' SOURCES, the first k laid. -/
structure Ms (wr : World) (MB N k : Nat) (S : Nat → Int) : Prop where
  cell : ∀ i, i < N → wr.cell? ⟨MB, i * 46 + 34, none⟩ = some (.int .i32 (if i < k then S i else 0))
  free : ∀ i, i < N → wr.frozen? ⟨MB, i * 46 + 34, none⟩ = false

theorem ms_start {W : World} {B MB N : Nat} {S : Nat → Int} (h : W.ownsRow B 72 46 (.slice (some ⟨MB, 0, none⟩) N N) N (madeCells (Yba.t72.zero.getD undef).cells (N * 46)).toList) : Ms W MB N 0 S :=
  ⟨fun i hi => by
    rw [h.cellAt (i * 46 + 34) (by omega)]
    unfold madeCells
    rw [cells72]
    have : i * 46 + 34 < N * 46 := by omega
    simp [this, show (i * 46 + 34) % 46 = 34 by omega, source72], fun i hi => h.frozenAt _⟩

theorem ms_step {W : World} {MB N k : Nat} {S : Nat → Int} (h : Ms W MB N k S) (hk : k < N) : Ms (W.setCell ⟨MB, k * 46 + 34, none⟩ (.int .i32 (S k))) MB N (k + 1) S :=
  ⟨fun i hi => by
    by_cases e : i = k
    · subst e
      rw [if_pos (by omega)]
      exact same_cell (h.cell i hi)
    · have := h.cell i hi
      rw [other_cell this (addr_ne (Or.inr (by omega)))]
      by_cases hlt : i < k
      · rw [if_pos hlt, if_pos (by omega)]
      · rw [if_neg hlt, if_neg (by omega)], fun i hi => by simp [h.free i hi]⟩

/-- The list, its first j entries. -/
def vsUp (N : Nat) (x : Nat → Nat) (j : Nat) : List Nat := (List.range j).map fun i => x i % N
theorem vsUp_len (N : Nat) (x : Nat → Nat) (j : Nat) : (vsUp N x j).length = j := by simp [vsUp]
theorem vsUp_succ (N : Nat) (x : Nat → Nat) (j : Nat) : vsUp N x (j + 1) = vsUp N x j ++ [x j % N] := by simp [vsUp, List.range_succ]
theorem vsUp_lt (N : Nat) (x : Nat → Nat) (j : Nat) (h : 0 < N) : ∀ v ∈ vsUp N x j, v < N := by
  intro v hv
  obtain ⟨i, _, rfl⟩ := List.mem_map.1 hv
  exact Nat.mod_lt _ h

/-- THE NODE AND ITS RECORDS, being laid: blocks w.heap.size and the next. -/
structure St1 (w wr : World) (N k : Nat) (S : Nat → Int) (mv : Value) : Prop where
  ms : Ms wr (w.heap.size + 1) N k S
  c17 : wr.cell? ⟨w.heap.size, 17, none⟩ = some mv
  f17 : wr.frozen? ⟨w.heap.size, 17, none⟩ = false
  c55 : wr.cell? ⟨w.heap.size, 55, none⟩ = some (.slice none 0 0)
  f55 : wr.frozen? ⟨w.heap.size, 55, none⟩ = false
  bel : Below w.heap.size w wr
  size : w.heap.size + 1 < wr.heap.size

theorem st1_start {w w1 : World} {o : Obj} {N : Nat} (S : Nat → Int) (hown : w1.ownsRow 0 72 46 (.slice (some ⟨(w.alloc o).heap.size, 0, none⟩) N N) N (madeCells (Yba.t72.zero.getD undef).cells (N * 46)).toList) (hg : (w.alloc o).grownBy w1 none)
    (h1 : (w.alloc o).cell? ⟨w.heap.size, 17, none⟩ = some (.slice none 0 0)) (h2 : (w.alloc o).frozen? ⟨w.heap.size, 17, none⟩ = false) (h3 : (w.alloc o).cell? ⟨w.heap.size, 55, none⟩ = some (.slice none 0 0)) (h4 : (w.alloc o).frozen? ⟨w.heap.size, 55, none⟩ = false) :
    St1 w w1 N 0 S (.slice none 0 0) := by
  have hs : (w.alloc o).heap.size = w.heap.size + 1 := by simp
  have hlt := (hown.lt _ rfl).2
  rw [hs] at hown hlt
  have hb : w1.heap[w.heap.size]? = (w.alloc o).heap[w.heap.size]? := hg.block _ (by omega) (by simp)
  exact ⟨ms_start hown, (World.cell?_of_block (a := ⟨w.heap.size, 17, none⟩) hb).trans h1, (World.frozen?_of_block (a := ⟨w.heap.size, 17, none⟩) hb).trans h2, (World.cell?_of_block (a := ⟨w.heap.size, 55, none⟩) hb).trans h3, (World.frozen?_of_block (a := ⟨w.heap.size, 55, none⟩) hb).trans h4,
    ((Below.refl w.heap.size w).alloc (Nat.le_refl _) o).grown hg (by omega) (fun k hk => by cases hk), hlt⟩

theorem st1_step {w wr : World} {N k : Nat} {S : Nat → Int} {mv : Value} (h : St1 w wr N k S mv) (hk : k < N) : St1 w (wr.setCell ⟨w.heap.size + 1, k * 46 + 34, none⟩ (.int .i32 (S k))) N (k + 1) S mv :=
  ⟨ms_step h.ms hk, other_cell h.c17 (addr_ne (Or.inl (by omega))), by simp [h.f17], other_cell h.c55 (addr_ne (Or.inl (by omega))), by simp [h.f55], h.bel.setCell (p := ⟨w.heap.size + 1, k * 46 + 34, none⟩) (by show w.heap.size ≤ w.heap.size + 1; omega) _, by simpa using h.size⟩

theorem st1_msgs {w wr : World} {N k : Nat} {S : Nat → Int} {mv : Value} (h : St1 w wr N k S mv) (v : Value) : St1 w (wr.setCell ⟨w.heap.size, 17, none⟩ v) N k S v :=
  ⟨⟨fun i hi => other_cell (h.ms.cell i hi) (addr_ne (Or.inl (by omega))), fun i hi => by simp [h.ms.free i hi]⟩, same_cell h.c17, by simp [h.f17], other_cell h.c55 (addr_ne (Or.inr (by decide))), by simp [h.f55], h.bel.setCell (p := ⟨w.heap.size, 17, none⟩) (Nat.le_refl _) _, by simpa using h.size⟩

/-- THE TWO LISTS, their first entries laid. -/
structure St2 (w2 wr : World) (LB OB c n1 : Nat) (l : List Nat) : Prop where
  lst : wr.ownsRow 0 21 1 (.slice (some ⟨LB, 0, none⟩) l.length c) l.length (encN l)
  org : wr.ownsRow 0 21 1 (.slice (some ⟨OB, 0, none⟩) l.length n1) l.length (encN l)
  bel : Below LB w2 wr
  lo : LB < OB
  hi : OB < wr.heap.size

theorem st2_start {w2 w3 w4 : World} {c n1 : Nat} (h1 : w3.ownsRow 0 21 1 (.slice (some ⟨w2.heap.size, 0, none⟩) 0 c) 0 []) (g1 : w2.grownBy w3 none) (h2 : w4.ownsRow 0 21 1 (.slice (some ⟨w3.heap.size, 0, none⟩) 0 n1) 0 []) (g2 : w3.grownBy w4 none) :
    St2 w2 w4 w2.heap.size w3.heap.size c n1 [] :=
  ⟨h1.kept g2 (Or.inr (by simp [Value.ownBlock])), h2, ((Below.refl _ w2).grown g1 (Nat.le_refl _) (fun k hk => by cases hk)).grown g2 g1.size (fun k hk => by cases hk), (h1.lt _ rfl).2, (h2.lt _ rfl).2⟩

/-- One round: v is laid behind both lists (each append first lays v in a block of its own). -/
theorem st2_step {w2 wr w3 w4 : World} {LB OB c n1 v : Nat} {l : List Nat} {o o' : Obj} (h : St2 w2 wr LB OB c n1 l) (h1 : w3.ownsRow 0 21 1 (.slice (some ⟨LB, 0, none⟩) (l.length + 1) c) (l.length + 1) (encN l ++ [Value.int .i32 ((v : Nat) : Int)])) (g1 : (wr.alloc o).grownBy w3 (some LB))
    (h2 : w4.ownsRow 0 21 1 (.slice (some ⟨OB, 0, none⟩) (l.length + 1) n1) (l.length + 1) (encN l ++ [Value.int .i32 ((v : Nat) : Int)])) (g2 : (w3.alloc o').grownBy w4 (some OB)) : St2 w2 w4 LB OB c n1 (l ++ [v]) := by
  have e1 : (l ++ [v]).length = l.length + 1 := by simp
  have e2 : encN (l ++ [v]) = encN l ++ [Value.int .i32 ((v : Nat) : Int)] := by simp [encN]
  have s1 : (wr.alloc o).heap.size = wr.heap.size + 1 := by simp
  have s2 : (w3.alloc o').heap.size = w3.heap.size + 1 := by simp
  have g1s := g1.size
  have g2s := g2.size
  have lo := h.lo
  have hi := h.hi
  refine ⟨?_, ?_, ?_, lo, by omega⟩
  · rw [e1, e2]
    exact (h1.alloc o').kept g2 (Or.inr (by simp [Value.ownBlock]; omega))
  · rw [e1, e2]; exact h2
  · exact (((h.bel.alloc (by omega) o).grown g1 (by omega) (fun k hk => by cases hk; exact Nat.le_refl _)).alloc (by omega) o').grown g2 (by omega) (fun k hk => by cases hk; omega)
theorem st2_mid {w2 wr w3 : World} {LB OB c n1 : Nat} {l : List Nat} {o : Obj} (h : St2 w2 wr LB OB c n1 l) (g1 : (wr.alloc o).grownBy w3 (some LB)) : w3.ownsRow 0 21 1 (.slice (some ⟨OB, 0, none⟩) l.length n1) l.length (encN l) :=
  (h.org.alloc o).kept g1 (Or.inr (by have := h.lo; simp [Value.ownBlock]; omega))

/-- WHAT zzs5195abuild LEAVES. -/
structure Built (w W : World) (RB LB OB N c n1 p : Nat) (S : Nat → Int) (l : List Nat) : Prop where
  c17 : W.cell? ⟨w.heap.size, 17, none⟩ = some (.slice (some ⟨w.heap.size + 1, 0, none⟩) N N)
  c55 : W.cell? ⟨w.heap.size, 55, none⟩ = some (.slice (some ⟨RB, 0, none⟩) 3 3)
  crp : W.cell? ⟨RB, p, none⟩ = some (.slice (some ⟨LB, 0, none⟩) l.length c)
  src : ∀ i, i < N → W.cell? ⟨w.heap.size + 1, i * 46 + 34, none⟩ = some (.int .i32 (S i))
  list : Holds (Value.int .i32) W LB 0 (l.map fun (v : Nat) => (v : Int)).toArray
  org : ∀ j, j < l.length → W.cell? ⟨OB, j, none⟩ = some (.int .i32 ((l.getD j 0 : Nat) : Int))
  n1 : w.heap.size + 1 < LB
  n2 : LB < OB
  lt : LB < W.heap.size
  bel : Below w.heap.size w W

theorem enc_get (l : List Nat) (j : Nat) (h : j < l.length) : (encN l)[j]? = some (.int .i32 ((l.getD j 0 : Nat) : Int)) := by simp [encN, List.getD, h]

theorem built_of {w w2 wr : World} {OB N c n1 p : Nat} {S : Nat → Int} {l : List Nat} (h1 : St1 w w2 N N S (.slice (some ⟨w.heap.size + 1, 0, none⟩) N N)) (h2 : St2 w2 wr w2.heap.size OB c n1 l) (hp : p < 3) :
    Built w (((wr.alloc (.cells #[.slice none 0 0, .slice none 0 0, .slice none 0 0] 25)).setCell ⟨w.heap.size, 55, none⟩ (.slice (some ⟨wr.heap.size, 0, none⟩) 3 3)).setCell ⟨wr.heap.size, p, none⟩ (.slice (some ⟨w2.heap.size, 0, none⟩) l.length c)) wr.heap.size w2.heap.size OB N c n1 p S l := by
  have s1 := h1.size
  have lo := h2.lo
  have hi := h2.hi
  have far : ∀ {b o : Nat} {v : Value}, wr.cell? ⟨b, o, none⟩ = some v → b < wr.heap.size → (w.heap.size ≠ b ∨ 55 ≠ o) →
      (((wr.alloc (.cells #[.slice none 0 0, .slice none 0 0, .slice none 0 0] 25)).setCell ⟨w.heap.size, 55, none⟩ (.slice (some ⟨wr.heap.size, 0, none⟩) 3 3)).setCell ⟨wr.heap.size, p, none⟩ (.slice (some ⟨w2.heap.size, 0, none⟩) l.length c)).cell? ⟨b, o, none⟩ = some v :=
    fun h hb hn => other_cell (other_cell (cell?_alloc_old _ h) (addr_ne hn)) (addr_ne (Or.inl (by omega)))
  have up : ∀ {b o : Nat} {v : Value}, w2.cell? ⟨b, o, none⟩ = some v → b < w2.heap.size → wr.cell? ⟨b, o, none⟩ = some v := fun {b o v} h hb => (h2.bel.cell (p := ⟨b, o, none⟩) hb).trans h
  refine ⟨far (up h1.c17 (by omega)) (by omega) (Or.inr (by decide)), ?_, ?_, fun i hi' => ?_, fun j hj => ?_, fun j hj => ?_, h1.size, lo, ?_, ?_⟩
  · exact other_cell (same_cell (cell?_alloc_old _ (up h1.c55 (by omega)))) (addr_ne (Or.inl (by omega)))
  · have hc : (wr.alloc (.cells #[.slice none 0 0, .slice none 0 0, .slice none 0 0] 25)).cell? ⟨wr.heap.size, p, none⟩ = some (.slice none 0 0) := by
      have : p = 0 ∨ p = 1 ∨ p = 2 := by omega
      rcases this with rfl | rfl | rfl <;> simp
    exact same_cell (other_cell hc (addr_ne (Or.inl (by omega))))
  · have := h1.ms.cell i hi'
    rw [if_pos hi'] at this
    exact far (up this (by omega)) (by omega) (Or.inl (by omega))
  · have hj' : j < l.length := by simpa using hj
    have hc := h2.lst.cellAt j (by omega)
    rw [enc_get l j hj'] at hc
    refine ⟨?_, ?_⟩
    · rw [Nat.zero_add, getElem!_pos (l.map fun (v : Nat) => (v : Int)).toArray j hj]
      have e : (l.map fun (v : Nat) => (v : Int)).toArray[j] = ((l.getD j 0 : Nat) : Int) := by simp [List.getD, hj']
      rw [e]
      exact far hc (by omega) (Or.inl (by omega))
    · have hf := h2.lst.frozenAt (0 + j)
      simp only [World.frozen?_setCell]
      rw [World.frozen?_alloc_old _ _ _ (by show w2.heap.size ≠ wr.heap.size; omega)]
      exact hf
  · have hc := h2.org.cellAt j (by omega)
    rw [enc_get l j hj] at hc
    exact far hc hi (Or.inl (by omega))
  · simp
    omega
  · have b1 : Below w.heap.size w wr := ⟨h2.bel.os.trans h1.bel.os, h2.bel.tape.trans h1.bel.tape, h2.bel.output.trans h1.bel.output, by omega, fun k hk => (h2.bel.block k (by omega)).trans (h1.bel.block k hk)⟩
    exact ((b1.alloc (by omega) _).setCell (p := ⟨w.heap.size, 55, none⟩) (Nat.le_refl _) _).setCell (p := ⟨wr.heap.size, p, none⟩) (by show w.heap.size ≤ wr.heap.size; omega) _

end Go.Proofs.Ybulkdcoi
