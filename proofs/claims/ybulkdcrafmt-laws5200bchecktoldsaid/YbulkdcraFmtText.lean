/-
  THE WALKS: '(Algorithm).String' (which fmt has called), and fmt.Errorf at the three calls of the project's: an error that is not nil; nothing old has turned.
-/
import Derived.Test.YbulkdcraFmtInfo
import Derived.Test.YbulkdcraFmtStops
namespace Go.Proofs.YbulkdcraFmt
open Go.Shelf Go.RowKit Go.Lib
open Go.Extern.Stop Go.Stop Go.Extern
attribute [local go_sem] Ybaf.call35 Ybaf.call44 Ybaf.guard Ybaf.fmt1 Ybaf.fmt1r Ybaf.fmt2 Ybaf.fmt2r Ybaf.fmt3 Ybaf.fmt3r Ybaf.fmt4 Ybaf.fmt4r Ybaf.act36_118w Ybaf.isString36 Ybaf.str36 Ybaf.act3_100w Ybaf.op3_100w Ybaf.str3 Ybaf.act9_115w Ybaf.op9_115w Ybaf.str9 Ybaf.op35_120 Ybaf.str35 Ybaf.ptr65 Ybaf.elem65 Ybaf.isError65

/-- WHERE a LIES: nowhere, or in one row of the thirteen. -/
theorem idx_cases {α : Type} (eq : α → α → Bool) (x : α) : ∀ (l : List α) (i : Nat), Lib.idxByFrom eq x l i = -1 ∨ ∃ j : Nat, j < l.length ∧ Lib.idxByFrom eq x l i = ((i + j : Nat) : Int)
  | [], _ => Or.inl rfl
  | y :: r, i => by
    unfold Lib.idxByFrom
    split
    · exact Or.inr ⟨0, by simp, by simp⟩
    · rcases idx_cases eq x r (i + 1) with h | ⟨j, hj, h⟩
      · exact Or.inl h
      · exact Or.inr ⟨j + 1, by simpa using hj, by rw [h]; omega⟩
theorem place_cases (a : Int) : place a = -1 ∨ ∃ j : Nat, j < 13 ∧ place a = j := by
  rcases idx_cases (fun _ y => y.1 == a) default tbl 0 with h | ⟨j, hj, h⟩
  · exact Or.inl h
  · exact Or.inr ⟨j, hj, by rw [show place a = _ from h]; simp⟩

set_option maxHeartbeats 1000000 in
theorem string_no (F : Interp) (a : Int) (b off c : Nat) (w : World) (hF : F.answers w.tape) (h : TabAt w b off c) (hp : place a = -1) :
    Calls Ybaf.prog 36 #[.int .u32 a] w fun e w' => ∃ s, e = .returned (.string s) ∧ Below w.heap.size w w' := by
  have hcon := info_no a b off c w h hp
  go_enter Ybaf.func36, Ybaf.ntmps36
  go_wp2_with fail
  refine hcon.mono ?_
  rintro e w1 ⟨rfl, hb1⟩
  clear hcon hp h
  have hF1 := answers_open (show F.answers w1.tape by rw [hb1.tape]; exact hF)
  go_wp2
  go_ret
  exact ⟨_, rfl, ((hb1.alloc hb1.size _).alloc (Nat.le_trans hb1.size (by simp)) _).drew⟩

set_option maxHeartbeats 1000000 in
theorem string_yes (a : Int) (b off c : Nat) (w : World) (h : TabAt w b off c) (j : Nat) (hj : j < 13) (hp : place a = j) :
    Calls Ybaf.prog 36 #[.int .u32 a] w fun e w' => ∃ s, e = .returned (.string s) ∧ Below w.heap.size w w' := by
  have hcon := info_yes a b off c w h j hj hp tbl[j]! rfl
  generalize tbl[j]! = r at hcon
  go_enter Ybaf.func36, Ybaf.ntmps36
  go_wp2_with fail
  refine hcon.mono ?_
  rintro e w1 ⟨rfl, hb1⟩
  clear hcon hp h
  go_wp2
  go_ret
  exact ⟨_, rfl, hb1.alloc hb1.size _⟩

/-- '(Algorithm).String': some string. -/
theorem string_any (F : Interp) (a : Int) (b off c : Nat) (w : World) (hF : F.answers w.tape) (h : TabAt w b off c) :
    Calls Ybaf.prog 36 #[.int .u32 a] w fun e w' => ∃ s, e = .returned (.string s) ∧ Below w.heap.size w w' := by
  rcases place_cases a with hp | ⟨j, hj, hp⟩
  · exact string_no F a b off c w hF h hp
  · exact string_yes a b off c w h j hj hp

set_option maxHeartbeats 1000000 in
/-- fmt.Errorf at sessionKeyLen's call -/
theorem errorf1 (F : Interp) (a : Int) (s : ByteArray) (b off c blk : Nat) (w : World) (hF : F.answers w.tape) (h : TabAt w b off c) (hc0 : w.cell? ⟨blk, 0, none⟩ = some (.iface 36 (.int .u32 a))) (hc1 : w.cell? ⟨blk, 1, none⟩ = some (.iface 9 (.string s))) :
    Calls Ybaf.prog 24 #[.string ⟨#[37, 118, 32, 105, 115, 32, 110, 111, 116, 32, 97, 32, 115, 101, 115, 115, 105, 111, 110, 45, 107, 101, 121, 32, 97, 108, 103, 111, 114, 105, 116, 104, 109, 58, 32, 97, 32, 83, 73, 77, 80, 76, 69, 66, 76, 79, 66, 32, 104, 101, 114, 101, 32, 99, 97, 114, 114, 105, 101, 115, 32, 97, 32, 107, 101, 121, 32, 111, 102, 32, 111, 110, 101, 32, 111, 102, 32, 37, 115]⟩, .slice (some ⟨blk, 0, none⟩) 2 2] w fun e w' => (∃ p, e = .returned (.iface 65 (.pointer (some p)))) ∧ Below w.heap.size w w' := by
  have hF' := answers_open hF
  have hb : blk < w.heap.size := World.block_lt_of_cell? _ _ hc0
  have hcon := string_any F a b off c w hF h
  go_enter Ybaf.func24, Ybaf.ntmps24
  go_wp2
  apply rows_call Ybaf.nextTurns
  case hr =>
    go_simp
    exact ⟨⟨rfl, rfl, rfl⟩, rfl⟩
  case hi => exact Ybaf.invokeString36 _ _
  case hc =>
    refine hcon.mono fun e w₃ ⟨said, he, hx⟩ => ?_
    subst he
    have hF3 := answers_open (show F.answers w₃.tape by rw [hx.tape]; exact hF)
    have hc03 : w₃.cell? ⟨blk, 0, none⟩ = some (.iface 36 (.int .u32 a)) := by rw [hx.cell hb]; exact hc0
    have hc13 : w₃.cell? ⟨blk, 1, none⟩ = some (.iface 9 (.string s)) := by rw [hx.cell hb]; exact hc1
    apply rows_value Ybaf.nextReturned
    case hr =>
      go_simp
      exact ⟨rfl, rfl⟩
    case h =>
      go_wp2
      go_ret
      exact ⟨⟨_, rfl⟩, (hx.alloc hx.size _).drew⟩

set_option maxHeartbeats 1000000 in
/-- fmt.Errorf at CheckSessionKeyLen's first call -/
theorem errorf2 (F : Interp) (a : Int) (x : Int) (y : Int) (b off c blk : Nat) (w : World) (hF : F.answers w.tape) (h : TabAt w b off c) (hc0 : w.cell? ⟨blk, 0, none⟩ = some (.iface 36 (.int .u32 a))) (hc1 : w.cell? ⟨blk, 1, none⟩ = some (.iface 3 (.int .i64 x))) (hc2 : w.cell? ⟨blk, 2, none⟩ = some (.iface 3 (.int .i64 y))) :
    Calls Ybaf.prog 24 #[.string ⟨#[37, 118, 32, 116, 97, 107, 101, 115, 32, 97, 32, 115, 101, 115, 115, 105, 111, 110, 32, 107, 101, 121, 32, 111, 102, 32, 37, 100, 32, 98, 121, 116, 101, 115, 44, 32, 110, 111, 116, 32, 37, 100]⟩, .slice (some ⟨blk, 0, none⟩) 3 3] w fun e w' => (∃ p, e = .returned (.iface 65 (.pointer (some p)))) ∧ Below w.heap.size w w' := by
  have hF' := answers_open hF
  have hb : blk < w.heap.size := World.block_lt_of_cell? _ _ hc0
  have hcon := string_any F a b off c w hF h
  go_enter Ybaf.func24, Ybaf.ntmps24
  go_wp2
  apply rows_call Ybaf.nextTurns
  case hr =>
    go_simp
    exact ⟨⟨rfl, rfl, rfl⟩, rfl⟩
  case hi => exact Ybaf.invokeString36 _ _
  case hc =>
    refine hcon.mono fun e w₃ ⟨said, he, hx⟩ => ?_
    subst he
    have hF3 := answers_open (show F.answers w₃.tape by rw [hx.tape]; exact hF)
    have hc03 : w₃.cell? ⟨blk, 0, none⟩ = some (.iface 36 (.int .u32 a)) := by rw [hx.cell hb]; exact hc0
    have hc13 : w₃.cell? ⟨blk, 1, none⟩ = some (.iface 3 (.int .i64 x)) := by rw [hx.cell hb]; exact hc1
    have hc23 : w₃.cell? ⟨blk, 2, none⟩ = some (.iface 3 (.int .i64 y)) := by rw [hx.cell hb]; exact hc2
    apply rows_value Ybaf.nextReturned
    case hr =>
      go_simp
      exact ⟨rfl, rfl⟩
    case h =>
      go_wp2
      go_ret
      exact ⟨⟨_, rfl⟩, (hx.alloc hx.size _).drew⟩

set_option maxHeartbeats 1000000 in
/-- fmt.Errorf at CheckSessionKeyLen's second call -/
theorem errorf3 (F : Interp) (a : Int) (x : Int) (y : Int) (z : Int) (b off c blk : Nat) (w : World) (hF : F.answers w.tape) (h : TabAt w b off c) (hc0 : w.cell? ⟨blk, 0, none⟩ = some (.iface 36 (.int .u32 a))) (hc1 : w.cell? ⟨blk, 1, none⟩ = some (.iface 3 (.int .i64 x))) (hc2 : w.cell? ⟨blk, 2, none⟩ = some (.iface 3 (.int .i64 y))) (hc3 : w.cell? ⟨blk, 3, none⟩ = some (.iface 3 (.int .i64 z))) :
    Calls Ybaf.prog 24 #[.string ⟨#[37, 118, 32, 116, 97, 107, 101, 115, 32, 97, 32, 115, 101, 115, 115, 105, 111, 110, 32, 107, 101, 121, 32, 111, 102, 32, 37, 100, 32, 116, 111, 32, 37, 100, 32, 98, 121, 116, 101, 115, 44, 32, 110, 111, 116, 32, 37, 100]⟩, .slice (some ⟨blk, 0, none⟩) 4 4] w fun e w' => (∃ p, e = .returned (.iface 65 (.pointer (some p)))) ∧ Below w.heap.size w w' := by
  have hF' := answers_open hF
  have hb : blk < w.heap.size := World.block_lt_of_cell? _ _ hc0
  have hcon := string_any F a b off c w hF h
  go_enter Ybaf.func24, Ybaf.ntmps24
  go_wp2
  apply rows_call Ybaf.nextTurns
  case hr =>
    go_simp
    exact ⟨⟨rfl, rfl, rfl⟩, rfl⟩
  case hi => exact Ybaf.invokeString36 _ _
  case hc =>
    refine hcon.mono fun e w₃ ⟨said, he, hx⟩ => ?_
    subst he
    have hF3 := answers_open (show F.answers w₃.tape by rw [hx.tape]; exact hF)
    have hc03 : w₃.cell? ⟨blk, 0, none⟩ = some (.iface 36 (.int .u32 a)) := by rw [hx.cell hb]; exact hc0
    have hc13 : w₃.cell? ⟨blk, 1, none⟩ = some (.iface 3 (.int .i64 x)) := by rw [hx.cell hb]; exact hc1
    have hc23 : w₃.cell? ⟨blk, 2, none⟩ = some (.iface 3 (.int .i64 y)) := by rw [hx.cell hb]; exact hc2
    have hc33 : w₃.cell? ⟨blk, 3, none⟩ = some (.iface 3 (.int .i64 z)) := by rw [hx.cell hb]; exact hc3
    apply rows_value Ybaf.nextReturned
    case hr =>
      go_simp
      exact ⟨rfl, rfl⟩
    case h =>
      go_wp2
      go_ret
      exact ⟨⟨_, rfl⟩, (hx.alloc hx.size _).drew⟩

end Go.Proofs.YbulkdcraFmt
