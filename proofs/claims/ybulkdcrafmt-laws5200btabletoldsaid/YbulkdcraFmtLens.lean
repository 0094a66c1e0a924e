/-
  'sessionKeyLen' AND THE MODEL by one plain function 'lens'; 'zzs5200bpick': some algorithm.
-/
import Derived.Test.YbulkdcraFmtSkl
namespace Go.Proofs.YbulkdcraFmt
open Go.Shelf Go.RowKit Go.Lib
open Go.Extern.Stop Go.Stop Go.Extern

/-- THE DOCUMENTED TABLE: the shortest, the longest session key, and whether a is a session-key algorithm. -/
def lens (a : Int) : Int × Int × Bool :=
  if a = 26113 then (8, 8, true) else if a = 26114 then (5, 16, true) else if a = 26625 then (5, 16, true) else if a = 26115 then (24, 24, true) else if a = 26127 then (24, 24, true)
  else if a = 26121 then (16, 16, true) else if a = 26126 then (16, 16, true) else if a = 26128 then (32, 32, true) else (0, 0, false)

theorem idx_at {α : Type} [Inhabited α] (eq : α → α → Bool) (x : α) : ∀ (l : List α) (i j : Nat), Lib.idxByFrom eq x l i = ((i + j : Nat) : Int) → eq x l[j]! = true
  | [], i, j, h => by simp [Lib.idxByFrom] at h; omega
  | y :: r, i, j, h => by
    unfold Lib.idxByFrom at h
    split at h
    · rename_i hy
      have : j = 0 := by omega
      subst this
      simpa using hy
    · match j with
      | 0 =>
        exfalso
        rcases idx_cases eq x r (i + 1) with h' | ⟨j', _, h'⟩
        · rw [h'] at h; omega
        · rw [h'] at h; omega
      | j + 1 => simpa using idx_at eq x r (i + 1) j (by rw [h]; omega)
theorem idx_none {α : Type} (eq : α → α → Bool) (x : α) : ∀ (l : List α) (i : Nat), Lib.idxByFrom eq x l i = -1 → ∀ y ∈ l, eq x y = false
  | [], _, _, y, hy => by cases hy
  | z :: r, i, h, y, hy => by
    unfold Lib.idxByFrom at h
    split at h
    · omega
    · rename_i hz
      rcases List.mem_cons.1 hy with rfl | hy
      · simpa using hz
      · exact idx_none eq x r (i + 1) h y hy

theorem place_at (a : Int) (j : Nat) (h : place a = j) : tbl[j]!.1 = a := by
  have := idx_at (fun _ (y : Row) => y.1 == a) default tbl 0 j (by rw [Nat.zero_add]; exact h)
  simpa using this
theorem place_none (a : Int) (h : place a = -1) : ∀ r ∈ tbl, r.1 ≠ a := fun r hr => by
  have := idx_none (fun _ (y : Row) => y.1 == a) default tbl 0 h r hr
  simpa using this

theorem mem_at (j : Nat) (h : j < 13) : tbl[j]! ∈ tbl := by
  have hk : j < tbl.length := by rw [tbl_len]; exact h
  rw [getElem!_pos tbl j hk]; exact List.getElem_mem hk

/-- AT EACH ROW: either its algorithm has session keys and 'lens' says the row's lengths, or its longest is 0 and 'lens' says no. -/
theorem lens_row : ∀ j, j < 13 → (0 < tbl[j]!.2.2.2 ∧ lens tbl[j]!.1 = (tbl[j]!.2.2.1, tbl[j]!.2.2.2, true)) ∨ (tbl[j]!.2.2.2 = 0 ∧ lens tbl[j]!.1 = (0, 0, false)) := by
  decide +kernel
theorem lens_none (a : Int) (h : place a = -1) : lens a = (0, 0, false) := by
  have hn := place_none a h
  have n1 := hn _ (mem_at 5 (by decide))
  have n2 := hn _ (mem_at 6 (by decide))
  have n3 := hn _ (mem_at 7 (by decide))
  have n4 := hn _ (mem_at 8 (by decide))
  have n5 := hn _ (mem_at 9 (by decide))
  have n6 := hn _ (mem_at 10 (by decide))
  have n7 := hn _ (mem_at 11 (by decide))
  have n8 := hn _ (mem_at 12 (by decide))
  have m1 : a ≠ 26113 := fun e => n1 e.symm
  have m2 : a ≠ 26114 := fun e => n2 e.symm
  have m3 : a ≠ 26115 := fun e => n3 e.symm
  have m4 : a ≠ 26121 := fun e => n4 e.symm
  have m5 : a ≠ 26126 := fun e => n5 e.symm
  have m6 : a ≠ 26127 := fun e => n6 e.symm
  have m7 : a ≠ 26128 := fun e => n7 e.symm
  have m8 : a ≠ 26625 := fun e => n8 e.symm
  simp [lens, m1, m2, m3, m4, m5, m6, m7, m8]
theorem lens_cases (a : Int) : (∃ x y, lens a = (x, y, true)) ∨ lens a = (0, 0, false) := by
  unfold lens
  repeat' split
  all_goals first | exact Or.inl ⟨_, _, rfl⟩ | exact Or.inr rfl

/-- 'sessionKeyLen' of a session-key algorithm. -/
theorem skl_yes (a x y : Int) (b off c : Nat) (w : World) (h : TabAt w b off c) (hl : lens a = (x, y, true)) :
    Calls Ybaf.prog 10 #[.int .u32 a] w fun e w' => e = .returned (.tuple #[.int .i64 x, .int .i64 y, .nilIface]) ∧ Below w.heap.size w w' := by
  rcases place_cases a with hp | ⟨j, hj, hp⟩
  · rw [lens_none a hp] at hl; cases hl
  · have ha := place_at a j hp
    rcases lens_row j hj with ⟨hpos, he⟩ | ⟨_, he⟩
    · rw [ha, hl] at he
      cases he
      exact skl_ok a w _ _ _ _ hpos (info_yes a b off c w h j hj hp _ rfl)
    · rw [ha, hl] at he; cases he
/-- .. of every other identifier. -/
theorem skl_no (F : Interp) (a : Int) (b off c : Nat) (w : World) (hF : F.answers w.tape) (h : TabAt w b off c) (hl : lens a = (0, 0, false)) :
    Calls Ybaf.prog 10 #[.int .u32 a] w fun e w' => (∃ p, e = .returned (.tuple #[.int .i64 0, .int .i64 0, .iface 65 (.pointer (some p))])) ∧ Below w.heap.size w w' := by
  rcases place_cases a with hp | ⟨j, hj, hp⟩
  · exact skl_err F a b off c w hF h _ _ _ _ false (info_no a b off c w h hp) (Or.inl rfl)
  · have ha := place_at a j hp
    rcases lens_row j hj with ⟨_, he⟩ | ⟨h0, _⟩
    · rw [ha, hl] at he; simp at he
    · exact skl_err F a b off c w hF h _ _ _ _ true (info_yes a b off c w h j hj hp _ rfl) (Or.inr ⟨rfl, h0⟩)

theorem ret3 {x y x' y' : Int} {b b' : Bool} (h : (x, y, b) = (x', y', b')) : Ending.returned (.tuple #[.int .i64 x, .int .i64 y, .bool b]) = .returned (.tuple #[.int .i64 x', .int .i64 y', .bool b']) := by cases h; rfl

set_option maxHeartbeats 1000000 in
/-- The model. -/
theorem model_any (a : Int) (w : World) :
    Calls Ybaf.prog 11 #[.int .u32 a] w fun e w' => e = .returned (.tuple #[.int .i64 (lens a).1, .int .i64 (lens a).2.1, .bool (lens a).2.2]) ∧ w' = w := by
  go_enter Ybaf.func11, Ybaf.ntmps11
  go_wp2
  all_goals go_ret3
  all_goals refine ⟨ret3 ?_, rfl⟩
  all_goals simp_all [lens]

/-- 'pick': some algorithm. -/
theorem pick_any (sel raw : Int) (w : World) (h0 : 0 ≤ sel) (h1 : sel ≤ 255) :
    Calls Ybaf.prog 9 #[.int .u8 sel, .int .u32 raw] w fun e w' => (∃ a, e = .returned (.int .u32 a)) ∧ w' = w := by
  go_enter Ybaf.func9, Ybaf.ntmps9
  go_wp2
  all_goals go_ret
  all_goals exact ⟨⟨_, rfl⟩, rfl⟩
end Go.Proofs.YbulkdcraFmt
