/-
  compactRequested's PARTS: the row that the three library calls turn; what they leave.
-/
import Derived.Test.YbulkdcoiDel
import Derived.Test.YbulkdcoiSSort
import Derived.Stop.LaidErr
namespace Go.Proofs.Ybulkdcoi
open Go.RowKit Go.Sort Go.Shelf Go.Lib
set_option linter.unusedVariables false

/-- W IS w WITH NEW BLOCKS, AND WITH ROW LB TURNED, which now begins with zs. -/
structure Rw (w : World) (LB : Nat) (zs : List Int) (W : World) : Prop where
  grown : w.grownBy W (some LB)
  holds : Holds (Value.int .i32) W LB 0 zs.toArray

theorem grown_put (w : World) (LB q : Nat) (d : Array Int) : w.grownBy (putRow (Value.int .i32) (Sort.ahead w q) LB 0 d) (some LB) :=
  ⟨rfl, rfl, rfl, by rw [size_putRow]; exact Nat.le_refl _, fun k _ hk => by
    show (w.heap.modify LB _)[k]? = w.heap[k]?
    rw [Array.getElem?_modify, if_neg (fun e => hk (by rw [e]))]⟩

theorem grown_trans {a b c : World} {row : Option Nat} (h1 : a.grownBy b row) (h2 : b.grownBy c row) : a.grownBy c row :=
  ⟨h2.os.trans h1.os, h2.tape.trans h1.tape, h2.output.trans h1.output, Nat.le_trans h1.size h2.size, fun k hk hr => (h2.block k (Nat.lt_of_lt_of_le hk h1.size) hr).trans (h1.block k hk hr)⟩

/-- A turn of a block that a did not have is no turn of a's. -/
theorem grown_new {a b c : World} {row : Option Nat} {g : Nat} (h1 : a.grownBy b row) (h2 : b.grownBy c (some g)) (hg : a.heap.size ≤ g) : a.grownBy c row :=
  ⟨h2.os.trans h1.os, h2.tape.trans h1.tape, h2.output.trans h1.output, Nat.le_trans h1.size h2.size, fun k hk hr => (h2.block k (Nat.lt_of_lt_of_le hk h1.size) (fun e => by cases e; omega)).trans (h1.block k hk hr)⟩

theorem grown_grow (w : World) (os : Array Obj) (row : Option Nat) : w.grownBy (grow w os) row :=
  ⟨rfl, rfl, rfl, by rw [size_grow]; omega, fun k hk _ => heap_grow_old w os hk⟩

theorem grown_none {a b c : World} {row : Option Nat} (h1 : a.grownBy b row) (h2 : b.grownBy c none) : a.grownBy c row :=
  ⟨h2.os.trans h1.os, h2.tape.trans h1.tape, h2.output.trans h1.output, Nat.le_trans h1.size h2.size, fun k hk hr => (h2.block k (Nat.lt_of_lt_of_le hk h1.size) (fun e => by cases e)).trans (h1.block k hk hr)⟩

theorem holds_front {W : World} {LB : Nat} {a b : List Int} (h : Holds (Value.int .i32) W LB 0 (a ++ b).toArray) : Holds (Value.int .i32) W LB 0 a.toArray := fun j hj => by
  have hj' : j < a.length := by simpa using hj
  have := h j (by simp; omega)
  rw [getElem!_pos (a ++ b).toArray j (by simp; omega)] at this
  rw [getElem!_pos a.toArray j hj]
  simpa [List.getElem_append_left hj'] using this

/-- Behind a row put down again: 'a' ahead of 'b', as long as what lay there. -/
theorem rw_put {w W : World} {LB q : Nat} {zs a b : List Int} (h : Rw w LB zs W) (hl : (a ++ b).length = zs.length) : Rw w LB a (putRow (Value.int .i32) (Sort.ahead W q) LB 0 (a ++ b).toArray) :=
  ⟨grown_trans h.grown (grown_put W LB q _), holds_front (holds_putRow _ _ _ _ zs.toArray _ (holds_ahead _ _ _ _ _ _ h.holds) (by simpa using hl))⟩

theorem rw_grow {w W : World} {LB : Nat} {zs : List Int} (h : Rw w LB zs W) (hLB : LB < W.heap.size) (os : Array Obj) : Rw w LB zs (grow W os) :=
  ⟨grown_trans h.grown (grown_grow W os _), holds_grow _ _ _ _ _ _ hLB h.holds⟩

theorem kept_le (S : Nat → Int) (p : Int) (vs : List Nat) : (kept S p vs).length ≤ vs.length := by
  unfold kept
  rw [List.length_map]
  exact List.length_filter_le _ _

theorem kz_le (N : Nat) (S : Nat → Int) (p : Int) (vs : List Nat) (h : ∀ v ∈ vs, v < N) : (kz N S p vs).length ≤ (kept S p vs).length := by
  have := congrArg List.length (compact_law N S p vs h)
  rw [List.length_map] at this
  rw [← this]
  unfold compactUpTo
  rw [List.length_map]
  exact Nat.le_trans (List.length_filter_le _ _) (by simp)

theorem sort_any (LB c : Nat) (zs : List Int) (w W : World) (h : Rw w LB zs W) (hblk : LB < W.heap.size) (hsz : zs.length ≤ 2000) :
    Calls Yba.prog 18 #[.slice (some ⟨LB, 0, none⟩) zs.length c] W fun e w' => e = .returned (.tuple #[]) ∧ Rw w LB (zs.mergeSort fun x y => decide (x ≤ y)) w' ∧ LB < w'.heap.size := by
  refine (Srt.slices_Sort LB 0 c zs W h.holds hblk (by omega)).mono ?_
  rintro e w' ⟨rfl, n, os, rfl⟩
  have hs : LB < (putRow (Value.int .i32) (Sort.ahead W n) LB 0 (zs.mergeSort fun x y => decide (x ≤ y)).toArray).heap.size := by rw [size_putRow]; exact hblk
  have h1 := rw_put (q := n) (a := zs.mergeSort fun x y => decide (x ≤ y)) (b := []) h (by simp)
  rw [List.append_nil] at h1
  exact ⟨rfl, rw_grow h1 hs os, by rw [size_grow]; omega⟩

theorem cpt_any (LB c N : Nat) (S : Nat → Int) (p : Int) (vs : List Nat) (hv : ∀ v ∈ vs, v < N) (w W : World) (h : Rw w LB ((kept S p vs).mergeSort fun x y => decide (x ≤ y)) W) (hsz : (kept S p vs).length ≤ 2000) (hc : (kept S p vs).length ≤ c) :
    Calls Yba.prog 19 #[.slice (some ⟨LB, 0, none⟩) (kept S p vs).length c] W fun e w' => e = .returned (.slice (some ⟨LB, 0, none⟩) (kz N S p vs).length c) ∧ Rw w LB ((kz N S p vs).map fun (v : Nat) => (v : Int)) w' := by
  have hl : ((kept S p vs).mergeSort fun x y => decide (x ≤ y)).toArray.size = (kept S p vs).length := by simp
  have hcon := AnyE.slices_Compact Yba.cpt (Value.int .i32) (fun _ => rfl) (EqlAt.intD _ _ _) (NeqAt.intD _ _ _) 0 Yba.zeroValue21 LB 0 c ((kept S p vs).mergeSort fun x y => decide (x ≤ y)).toArray W h.holds (by omega) (by omega)
  change Calls Yba.prog 19 _ _ _ at hcon
  rw [hl, compact_law N S p vs hv] at hcon
  refine hcon.mono ?_
  rintro e w' ⟨rfl, q, rfl⟩
  refine ⟨by rw [List.length_map], rw_put h ?_⟩
  have := kz_le N S p vs hv
  simp
  omega

/-- THE ROOM that the list is given. -/
def wantCap (c k : Nat) : Nat := if 2 * k > c then (if 2 * c < 16 then 16 else 2 * c) else if c > 4 * k + 64 then 2 * k + 32 else c
end Go.Proofs.Ybulkdcoi
