/-
  THE WALKS: 'info$1' (the closure), 'info'.
-/
import Derived.Test.YbulkdcraFmtTab
import Derived.Test.YbulkdcraFmtShelf
import Derived.WalkKit
import Derived.WalkSpells
import Derived.WalkLawsBesides
import Derived.Lib.SliceRun
namespace Go.Proofs.YbulkdcraFmt
open Go.Shelf Go.RowKit Go.Lib

theorem TabAt.below {W W' : World} {b off c : Nat} (h : TabAt W b off c) (hb : Below W.heap.size W W') : TabAt W' b off c :=
  ⟨(hb.cell (p := ⟨0, 0, none⟩) h.2.1).trans h.1, Nat.lt_of_lt_of_le h.2.1 hb.size, Nat.lt_of_lt_of_le h.2.2.1 hb.size, fun j hj i v hi => (hb.cell (p := ⟨b, off + j * 4 + i, none⟩) h.2.2.1).trans (h.2.2.2 j hj i v hi)⟩

/-- THE CLOSURE: 'r.alg == a', a in the cell ⟨B, 0⟩ of the caller's. -/
theorem pred39 (a : Int) (B : Nat) (w : World) (hB : B < w.heap.size) (hcell : w.cell? ⟨B, 0, none⟩ = some (.int .u32 a)) :
    PredBelow Ybaf.prog 39 #[.pointer (some ⟨B, 0, none⟩)] (fun x => .agg (enc x).toArray) (fun x => x.1 == a) w := fun W x hb => by
  have hc : W.cell? ⟨B, 0, none⟩ = some (.int .u32 a) := (hb.cell (p := ⟨B, 0, none⟩) hB).trans hcell
  have hBW : B < W.heap.size := Nat.lt_of_lt_of_le hB hb.size
  have hne : B ≠ W.heap.size := by omega
  show Calls Ybaf.prog 39 #[.agg #[.int .u32 x.1, .string x.2.1, .int .i64 x.2.2.1, .int .i64 x.2.2.2], .pointer (some ⟨B, 0, none⟩)] W _
  go_enter Ybaf.func39, Ybaf.ntmps39
  go_wp2
  go_ret
  exact ⟨rfl, hb.alloc hb.size _⟩

/-- THE PLACE of a in the table, or -1. -/
def place (a : Int) : Int := Lib.idxBy (fun _ y => y.1 == a) tbl (default : Row)

set_option maxHeartbeats 1000000 in
theorem index_any (a : Int) (b off c : Nat) (w : World) (h : TabAt w b off c) (B : Nat) (hB : B < w.heap.size) (hcell : w.cell? ⟨B, 0, none⟩ = some (.int .u32 a)) :
    Calls Ybaf.prog 38 #[.slice (some ⟨b, off, none⟩) 13 c, .func (.func 39) #[] #[.pointer (some ⟨B, 0, none⟩)]] w fun e w' => e = .returned (.int .i64 (place a)) ∧ Below w.heap.size w w' := by
  have eg : ∀ args w, (callFunc 39 args).run Ybaf.prog w = .ok (.enter 39 args) w := enters_of Ybaf.func39 (by kernel_rfl) rfl
  exact AnyQ.slices_IndexFunc Ybaf.l38 4 Ybaf.isAgg53 Ybaf.sizeOf53 enc (fun _ => rfl) (fun x => x.1 == a) 39 #[.pointer (some ⟨B, 0, none⟩)] eg b off 13 c tbl w (pred39 a B w hB hcell) (Nat.le_refl 13) (by decide) h.2.2.1 h.2.2.2


theorem tab_rows {W : World} {b off c : Nat} (h : TabAt W b off c) (j : Nat) (hj : j < 13) :
    W.cell? ⟨b, off + j * 4, none⟩ = some (.int .u32 tbl[j]!.1) ∧ W.cell? ⟨b, off + j * 4 + 1, none⟩ = some (.string tbl[j]!.2.1) ∧
    W.cell? ⟨b, off + j * 4 + 2, none⟩ = some (.int .i64 tbl[j]!.2.2.1) ∧ W.cell? ⟨b, off + j * 4 + 3, none⟩ = some (.int .i64 tbl[j]!.2.2.2) :=
  ⟨h.2.2.2 j hj 0 _ rfl, h.2.2.2 j hj 1 _ rfl, h.2.2.2 j hj 2 _ rfl, h.2.2.2 j hj 3 _ rfl⟩

theorem bcell {W w1 : World} (hb : Below W.heap.size W w1) : (∀ b o, b < W.heap.size → w1.cell? ⟨b, o, none⟩ = W.cell? ⟨b, o, none⟩) ∧ (∀ b o, b < W.heap.size → w1.frozen? ⟨b, o, none⟩ = W.frozen? ⟨b, o, none⟩) :=
  ⟨fun b o h => hb.cell (p := ⟨b, o, none⟩) h, fun b o h => hb.frozen (p := ⟨b, o, none⟩) h⟩

set_option maxHeartbeats 1000000 in
/-- 'info' of an algorithm that the table does not know. -/
theorem info_no (a : Int) (b off c : Nat) (w : World) (h : TabAt w b off c) (hp : place a = -1) :
    Calls Ybaf.prog 28 #[.int .u32 a] w fun e w' => e = .returned (.tuple #[.agg #[.int .u32 0, .string { data := #[] }, .int .i64 0, .int .i64 0], .bool false]) ∧ Below w.heap.size w w' := by
  have hb2 : Below w.heap.size w ((w.alloc (.cells #[.int .u32 a] 36)).alloc (.cells #[.int .u32 0, .string { data := #[] }, .int .i64 0, .int .i64 0] 53)) := ((Below.refl _ _).alloc (Nat.le_refl _) _).alloc (by simp) _
  have hcon := index_any a b off c _ (h.below hb2) w.heap.size (by simp; omega) (by simp)
  rw [hp] at hcon
  have h0 := h.1
  have hs0 := h.2.1
  go_enter Ybaf.func28, Ybaf.ntmps28
  go_wp2_with fail
  refine hcon.mono ?_
  rintro e w1 ⟨rfl, hb1⟩
  obtain ⟨hc, hf⟩ := bcell hb1
  have hz : w.heap.size + 1 < w1.heap.size := by have := hb1.size; simp at this; omega
  clear hcon
  go_wp2
  refine bodyPost_ret (v := .tuple #[.agg #[.int .u32 0, .string { data := #[] }, .int .i64 0, .int .i64 0], .bool false]) (by simp [results, Ybaf.results28, go_sem, hc]) rfl ⟨rfl, ?_⟩
  have hbw := hb2.trans (hb1.mono (by simp; omega))
  exact (((hbw.setCell (Nat.le_succ _) _).setCell (Nat.le_succ _) _).setCell (Nat.le_succ _) _).setCell (Nat.le_succ _) _

set_option maxHeartbeats 1000000 in
/-- 'info' of the algorithm in the table's row j. -/
theorem info_yes (a : Int) (b off c : Nat) (w : World) (h : TabAt w b off c) (j : Nat) (hj : j < 13) (hp : place a = j) (r : Row) (hr : Hid (tbl[j]! = r)) :
    Calls Ybaf.prog 28 #[.int .u32 a] w fun e w' => e = .returned (.tuple #[.agg #[.int .u32 r.1, .string r.2.1, .int .i64 r.2.2.1, .int .i64 r.2.2.2], .bool true]) ∧ Below w.heap.size w w' := by
  have hb2 : Below w.heap.size w ((w.alloc (.cells #[.int .u32 a] 36)).alloc (.cells #[.int .u32 0, .string { data := #[] }, .int .i64 0, .int .i64 0] 53)) := ((Below.refl _ _).alloc (Nat.le_refl _) _).alloc (by simp) _
  have hcon := index_any a b off c _ (h.below hb2) w.heap.size (by simp; omega) (by simp)
  rw [hp] at hcon
  have h0 := h.1
  have hs0 := h.2.1
  clear hp
  go_enter Ybaf.func28, Ybaf.ntmps28
  go_wp2_with fail
  refine hcon.mono ?_
  rintro e w1 ⟨rfl, hb1⟩
  have hbw := hb2.trans (hb1.mono (by simp; omega))
  have h1 := h.below hbw
  obtain ⟨r0, r1, r2, r3⟩ := tab_rows h1 j hj
  have h01 := h1.1
  have c0 := (bcell hb1).1 (w.heap.size + 1) 0 (by simp)
  have c1 := (bcell hb1).1 (w.heap.size + 1) 1 (by simp)
  have c2 := (bcell hb1).1 (w.heap.size + 1) 2 (by simp)
  have c3 := (bcell hb1).1 (w.heap.size + 1) 3 (by simp)
  have f0 := (bcell hb1).2 (w.heap.size + 1) 0 (by simp)
  have f1 := (bcell hb1).2 (w.heap.size + 1) 1 (by simp)
  have f2 := (bcell hb1).2 (w.heap.size + 1) 2 (by simp)
  have f3 := (bcell hb1).2 (w.heap.size + 1) 3 (by simp)
  simp at c0 c1 c2 c3 f0 f1 f2 f3
  have hz : w.heap.size + 1 < w1.heap.size := by have := hb1.size; simp at this; omega
  rw [hr.out] at r0 r1 r2 r3
  clear hcon h0 hr
  go_wp2
  refine bodyPost_ret (v := .tuple #[.agg #[.int .u32 r.1, .string r.2.1, .int .i64 r.2.2.1, .int .i64 r.2.2.2], .bool true]) (by simp [results, Ybaf.results28, go_sem, c0, c1, c2, c3]) rfl ⟨rfl, ?_⟩
  exact (((hbw.setCell (Nat.le_succ _) _).setCell (Nat.le_succ _) _).setCell (Nat.le_succ _) _).setCell (Nat.le_succ _) _
end Go.Proofs.YbulkdcraFmt
