/-
  THE PLAIN LAW: strike, sort, compact: what is left is, ascending and once each, what was listed and is awaited.
-/
import Derived.Lib.SlicesCompact
namespace Go.Proofs.Ybulkdcoi
open Go.Lib

/-- Two ascending lists with the same members are one. -/
theorem asc_one : ∀ (a b : List Int), a.Pairwise (· < ·) → b.Pairwise (· < ·) → (∀ x, x ∈ a ↔ x ∈ b) → a = b
  | [], [], _, _, _ => rfl
  | [], y :: b, _, _, h => absurd ((h y).2 (by simp)) (by simp)
  | x :: a, [], _, _, h => absurd ((h x).1 (by simp)) (by simp)
  | x :: a, y :: b, ha, hb, h => by
    rw [List.pairwise_cons] at ha hb
    have hxy : x = y := by
      have h1 := (h x).1 (by simp)
      have h2 := (h y).2 (by simp)
      simp only [List.mem_cons] at h1 h2
      rcases h1 with h1 | h1
      · exact h1
      · rcases h2 with h2 | h2
        · exact h2.symm
        · have := ha.1 y h2
          have := hb.1 x h1
          omega
    subst hxy
    rw [asc_one a b ha.2 hb.2 fun z => ⟨fun hz => ?_, fun hz => ?_⟩]
    · have := (h z).1 (List.mem_cons_of_mem _ hz)
      rcases List.mem_cons.1 this with e | e
      · have := ha.1 z hz
        omega
      · exact e
    · have := (h z).2 (List.mem_cons_of_mem _ hz)
      rcases List.mem_cons.1 this with e | e
      · have := hb.1 z hz
        omega
      · exact e

/-- What slices.Compact keeps of an ascending row: ascending, strictly; the same members. -/
theorem compact_asc (d : Array Int) (hd : ∀ i j, i ≤ j → j < d.size → d[i]! ≤ d[j]!) : ∀ m, m ≤ d.size → (compactUpTo d m).Pairwise (· < ·) ∧ ∀ x, x ∈ compactUpTo d m ↔ ∃ j, j < m ∧ d[j]! = x
  | 0, _ => ⟨by simp [compactUpTo], fun x => by simp [compactUpTo]⟩
  | m + 1, hm => by
    obtain ⟨h1, h2⟩ := compact_asc d hd m (by omega)
    rw [compactUpTo_succ]
    by_cases hk : keeps d m = true
    · rw [if_pos hk]
      refine ⟨?_, fun x => ?_⟩
      · rw [List.pairwise_append]
        refine ⟨h1, by simp, fun x hx y hy => ?_⟩
        simp only [List.mem_singleton] at hy
        subst hy
        obtain ⟨j, hj, rfl⟩ := (h2 x).1 hx
        have hle := hd j (m - 1) (by omega) (by omega)
        have hle2 := hd (m - 1) m (by omega) (by omega)
        have hne : ¬ d[m - 1]! = d[m]! := by
          intro e
          simp [keeps] at hk
          rcases hk with hk | hk
          · omega
          · exact hk (by first | exact e | exact e.symm)
        omega
      · rw [List.mem_append, h2 x]
        simp only [List.mem_singleton]
        constructor
        · rintro (⟨j, hj, e⟩ | e)
          · exact ⟨j, by omega, e⟩
          · exact ⟨m, by omega, e.symm⟩
        · rintro ⟨j, hj, e⟩
          by_cases hjm : j = m
          · subst hjm; exact Or.inr e.symm
          · exact Or.inl ⟨j, by omega, e⟩
    · rw [if_neg hk, List.append_nil]
      refine ⟨h1, fun x => ?_⟩
      have hm0 : ¬ m = 0 ∧ d[m]! = d[m - 1]! := by
        simp [keeps] at hk
        first | exact hk | exact ⟨hk.1, hk.2.symm⟩
      rw [h2 x]
      constructor
      · rintro ⟨j, hj, e⟩
        exact ⟨j, by omega, e⟩
      · rintro ⟨j, hj, e⟩
        by_cases hjm : j = m
        · subst hjm; exact ⟨j - 1, by omega, by rw [← hm0.2]; exact e⟩
        · exact ⟨j, by omega, e⟩

/-- The places below N that are listed and await p, ascending. -/
def kz (N : Nat) (S : Nat → Int) (p : Int) (vs : List Nat) : List Nat := (List.range N).filter fun i => vs.contains i && decide (S i = p)
/-- What the first step keeps. -/
def kept (S : Nat → Int) (p : Int) (vs : List Nat) : List Int := (vs.filter fun v => decide (S v = p)).map fun (v : Nat) => (v : Int)

theorem kz_asc (N : Nat) (S : Nat → Int) (p : Int) (vs : List Nat) : ((kz N S p vs).map fun (v : Nat) => (v : Int)).Pairwise (· < ·) := by
  rw [List.pairwise_map]
  have h : (kz N S p vs).Pairwise (· < ·) := List.Pairwise.filter _ (List.pairwise_lt_range)
  simpa using h

theorem compact_law (N : Nat) (S : Nat → Int) (p : Int) (vs : List Nat) (h : ∀ v ∈ vs, v < N) :
    compactUpTo ((kept S p vs).mergeSort fun x y => decide (x ≤ y)).toArray (kept S p vs).length = (kz N S p vs).map fun (v : Nat) => (v : Int) := by
  have hperm := List.mergeSort_perm (kept S p vs) (fun x y => decide (x ≤ y))
  have hsort : ((kept S p vs).mergeSort fun x y => decide (x ≤ y)).Pairwise (fun a b => decide (a ≤ b) = true) :=
    List.pairwise_mergeSort (fun a b c h1 h2 => by simp at *; omega) (fun a b => by simp; omega) _
  generalize ((kept S p vs).mergeSort fun x y => decide (x ≤ y)) = l at hperm hsort
  have hlen : (kept S p vs).length = l.toArray.size := by simpa using hperm.length_eq.symm
  rw [hlen]
  have hd : ∀ i j, i ≤ j → j < l.toArray.size → l.toArray[i]! ≤ l.toArray[j]! := by
    intro i j hij hj
    have hj' : j < l.length := by simpa using hj
    rw [getElem!_pos l.toArray j hj, getElem!_pos l.toArray i (by omega)]
    simp only [List.getElem_toArray]
    by_cases e : i = j
    · subst e; omega
    · have := List.pairwise_iff_getElem.1 hsort i j (by omega) hj' (by omega)
      simpa using this
  obtain ⟨c1, c2⟩ := compact_asc l.toArray hd l.toArray.size (Nat.le_refl _)
  refine asc_one _ _ c1 (kz_asc N S p vs) fun x => ?_
  rw [c2 x]
  have hx : (∃ j, j < l.toArray.size ∧ l.toArray[j]! = x) ↔ x ∈ l := by
    rw [List.mem_iff_getElem]
    constructor
    · rintro ⟨j, hj, e⟩
      rw [getElem!_pos l.toArray j hj] at e
      exact ⟨j, by simpa using hj, by simpa using e⟩
    · rintro ⟨j, hj, e⟩
      exact ⟨j, by simpa using hj, by rw [getElem!_pos l.toArray j (by simpa using hj)]; simpa using e⟩
  rw [hx, hperm.mem_iff]
  simp only [kept, kz, List.mem_map, List.mem_filter, List.mem_range, Bool.and_eq_true, decide_eq_true_eq, List.contains_iff_mem]
  constructor
  · rintro ⟨v, ⟨hv, hs⟩, e⟩
    exact ⟨v, ⟨h v hv, hv, hs⟩, e⟩
  · rintro ⟨v, ⟨_, hv, hs⟩, e⟩
    exact ⟨v, ⟨hv, hs⟩, e⟩
end Go.Proofs.Ybulkdcoi
