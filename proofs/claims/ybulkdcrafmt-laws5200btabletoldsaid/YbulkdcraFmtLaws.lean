/-
  THE LAWS' WALKS: 'LawS5200BTable', 'CheckSessionKeyLen', 'LawS5200BCheck'.
-/
import Derived.Test.YbulkdcraFmtLens
namespace Go.Proofs.YbulkdcraFmt
open Go.Shelf Go.RowKit Go.Lib
open Go.Extern.Stop Go.Stop Go.Extern

set_option maxHeartbeats 1000000 in
theorem table_walk (F : Interp) (sel raw : Int) (b off c : Nat) (w : World) (hF : F.answers w.tape) (h : TabAt w b off c) (h0 : 0 ≤ sel) (h1 : sel ≤ 255) :
    Calls Ybaf.prog 4 #[.int .u8 sel, .int .u32 raw] w fun e w' => e = .returned (.bool true) ∧ Below w.heap.size w w' := by
  go_enter Ybaf.func4, Ybaf.ntmps4
  go_wp2_with fail
  refine (pick_any sel raw _ h0 h1).mono ?_
  rintro e w1 ⟨⟨a, rfl⟩, rfl⟩
  clear h0 h1
  rcases lens_cases a with ⟨x, y, hl⟩ | hl
  · have hm := model_any a
    have hs := skl_yes a x y b off c w1 h hl
    rw [hl] at hm
    clear hl
    go_wp2_with fail
    refine hs.mono ?_
    rintro e w2 ⟨rfl, hb⟩
    clear hs
    go_wp2_with fail
    refine (hm _).mono ?_
    rintro e w3 ⟨rfl, rfl⟩
    clear hm
    go_wp2
    go_ret
    exact ⟨rfl, hb⟩
  · have hm := model_any a
    have hs := skl_no F a b off c w1 hF h hl
    rw [hl] at hm
    clear hl
    go_wp2_with fail
    refine hs.mono ?_
    rintro e w2 ⟨⟨p, rfl⟩, hb⟩
    clear hs
    go_wp2_with fail
    refine (hm _).mono ?_
    rintro e w3 ⟨rfl, rfl⟩
    clear hm
    go_wp2
    go_ret
    exact ⟨rfl, hb⟩

/-- fmt.Errorf at the variadic block that the call lays. -/
theorem errorf2w (F : Interp) (a x y : Int) (b off c : Nat) (w : World) (hF : F.answers w.tape) (h : TabAt w b off c) :
    Calls Ybaf.prog 24 #[.string ⟨#[37, 118, 32, 116, 97, 107, 101, 115, 32, 97, 32, 115, 101, 115, 115, 105, 111, 110, 32, 107, 101, 121, 32, 111, 102, 32, 37, 100, 32, 98, 121, 116, 101, 115, 44, 32, 110, 111, 116, 32, 37, 100]⟩, .slice (some ⟨w.heap.size, 0, none⟩) 3 3] (w.alloc (.cells #[.iface 36 (.int .u32 a), .iface 3 (.int .i64 x), .iface 3 (.int .i64 y)] 20)) fun e w' => (∃ p, e = .returned (.iface 65 (.pointer (some p)))) ∧ Below w.heap.size w w' := by
  have hb := (Below.refl w.heap.size w).alloc (Nat.le_refl _) (.cells #[.iface 36 (.int .u32 a), .iface 3 (.int .i64 x), .iface 3 (.int .i64 y)] 20)
  exact (errorf2 F a x y b off c w.heap.size _ (by exact hF) (h.below hb) (by simp) (by simp) (by simp)).mono fun e w' ⟨he, hb'⟩ => ⟨he, hb.trans (hb'.mono (by simp))⟩
theorem errorf3w (F : Interp) (a x y z : Int) (b off c : Nat) (w : World) (hF : F.answers w.tape) (h : TabAt w b off c) :
    Calls Ybaf.prog 24 #[.string ⟨#[37, 118, 32, 116, 97, 107, 101, 115, 32, 97, 32, 115, 101, 115, 115, 105, 111, 110, 32, 107, 101, 121, 32, 111, 102, 32, 37, 100, 32, 116, 111, 32, 37, 100, 32, 98, 121, 116, 101, 115, 44, 32, 110, 111, 116, 32, 37, 100]⟩, .slice (some ⟨w.heap.size, 0, none⟩) 4 4] (w.alloc (.cells #[.iface 36 (.int .u32 a), .iface 3 (.int .i64 x), .iface 3 (.int .i64 y), .iface 3 (.int .i64 z)] 20)) fun e w' => (∃ p, e = .returned (.iface 65 (.pointer (some p)))) ∧ Below w.heap.size w w' := by
  have hb := (Below.refl w.heap.size w).alloc (Nat.le_refl _) (.cells #[.iface 36 (.int .u32 a), .iface 3 (.int .i64 x), .iface 3 (.int .i64 y), .iface 3 (.int .i64 z)] 20)
  exact (errorf3 F a x y z b off c w.heap.size _ (by exact hF) (h.below hb) (by simp) (by simp) (by simp) (by simp)).mono fun e w' ⟨he, hb'⟩ => ⟨he, hb.trans (hb'.mono (by simp))⟩

set_option maxHeartbeats 2000000 in
/-- 'CheckSessionKeyLen' of a session-key algorithm with one length, and n another. -/
theorem check_one (F : Interp) (a x n : Int) (b off c : Nat) (w : World) (hF : F.answers w.tape) (h : TabAt w b off c) (hl : lens a = (x, x, true)) (hn : (n != x) = true) :
    Calls Ybaf.prog 12 #[.int .u32 a, .int .i64 n] w fun e w' => (∃ p, e = .returned (.iface 65 (.pointer (some p)))) ∧ Below w.heap.size w w' := by
  have hs := skl_yes a x x b off c w h hl
  clear hl
  go_enter Ybaf.func12, Ybaf.ntmps12
  go_wp2_with fail
  refine hs.mono ?_
  rintro e w2 ⟨rfl, hb⟩
  clear hs
  have hcon := errorf2w F a x n b off c w2 (by rw [hb.tape]; exact hF) (h.below hb)
  go_wp2_with fail
  refine hcon.mono ?_
  rintro e w3 ⟨⟨p, rfl⟩, hb3⟩
  clear hcon
  go_wp2
  go_ret
  exact ⟨⟨p, rfl⟩, hb.trans (hb3.mono hb.size)⟩

set_option maxHeartbeats 2000000 in
/-- .. with two lengths, and n below the shortest. -/
theorem check_low (F : Interp) (a x y n : Int) (b off c : Nat) (w : World) (hF : F.answers w.tape) (h : TabAt w b off c) (hl : lens a = (x, y, true)) (hxy : ¬ x = y) (hn : n < x) :
    Calls Ybaf.prog 12 #[.int .u32 a, .int .i64 n] w fun e w' => (∃ p, e = .returned (.iface 65 (.pointer (some p)))) ∧ Below w.heap.size w w' := by
  have hs := skl_yes a x y b off c w h hl
  clear hl
  go_enter Ybaf.func12, Ybaf.ntmps12
  go_wp2_with fail
  refine hs.mono ?_
  rintro e w2 ⟨rfl, hb⟩
  clear hs
  have hcon := errorf3w F a x y n b off c w2 (by rw [hb.tape]; exact hF) (h.below hb)
  go_wp2_with fail
  refine hcon.mono ?_
  rintro e w3 ⟨⟨p, rfl⟩, hb3⟩
  clear hcon
  go_wp2
  go_ret
  exact ⟨⟨p, rfl⟩, hb.trans (hb3.mono hb.size)⟩

set_option maxHeartbeats 2000000 in
/-- .. and n above the longest. -/
theorem check_high (F : Interp) (a x y n : Int) (b off c : Nat) (w : World) (hF : F.answers w.tape) (h : TabAt w b off c) (hl : lens a = (x, y, true)) (hxy : ¬ x = y) (hx : x ≤ n) (hn : y < n) :
    Calls Ybaf.prog 12 #[.int .u32 a, .int .i64 n] w fun e w' => (∃ p, e = .returned (.iface 65 (.pointer (some p)))) ∧ Below w.heap.size w w' := by
  have hs := skl_yes a x y b off c w h hl
  have hx' : ¬ n < x := by omega
  clear hl
  go_enter Ybaf.func12, Ybaf.ntmps12
  go_wp2_with fail
  refine hs.mono ?_
  rintro e w2 ⟨rfl, hb⟩
  clear hs
  have hcon := errorf3w F a x y n b off c w2 (by rw [hb.tape]; exact hF) (h.below hb)
  go_wp2_with fail
  refine hcon.mono ?_
  rintro e w3 ⟨⟨p, rfl⟩, hb3⟩
  clear hcon
  go_wp2
  go_ret
  exact ⟨⟨p, rfl⟩, hb.trans (hb3.mono hb.size)⟩

set_option maxHeartbeats 2000000 in
/-- .. and n within. -/
theorem check_in (a x y n : Int) (b off c : Nat) (w : World) (h : TabAt w b off c) (hl : lens a = (x, y, true)) (hx : x ≤ n) (hy : n ≤ y) :
    Calls Ybaf.prog 12 #[.int .u32 a, .int .i64 n] w fun e w' => e = .returned .nilIface ∧ Below w.heap.size w w' := by
  have hs := skl_yes a x y b off c w h hl
  have hx' : ¬ n < x := by omega
  have hy' : ¬ y < n := by omega
  clear hl
  by_cases hxy : x = y
  · have hn : n = x := by omega
    subst hn
    subst hxy
    go_enter Ybaf.func12, Ybaf.ntmps12
    go_wp2_with fail
    refine hs.mono ?_
    rintro e w2 ⟨rfl, hb⟩
    clear hs
    go_wp2
    go_ret
    exact ⟨rfl, hb⟩
  · go_enter Ybaf.func12, Ybaf.ntmps12
    go_wp2_with fail
    refine hs.mono ?_
    rintro e w2 ⟨rfl, hb⟩
    clear hs
    go_wp2
    go_ret
    exact ⟨rfl, hb⟩

set_option maxHeartbeats 2000000 in
/-- 'CheckSessionKeyLen' of every other identifier: the error is handed on. -/
theorem check_no (F : Interp) (a n : Int) (b off c : Nat) (w : World) (hF : F.answers w.tape) (h : TabAt w b off c) (hl : lens a = (0, 0, false)) :
    Calls Ybaf.prog 12 #[.int .u32 a, .int .i64 n] w fun e w' => (∃ p, e = .returned (.iface 65 (.pointer (some p)))) ∧ Below w.heap.size w w' := by
  have hs := skl_no F a b off c w hF h hl
  clear hl
  go_enter Ybaf.func12, Ybaf.ntmps12
  go_wp2_with fail
  refine hs.mono ?_
  rintro e w2 ⟨⟨p, rfl⟩, hb⟩
  clear hs
  go_wp2
  go_ret
  exact ⟨⟨p, rfl⟩, hb⟩

/-- .. of a session-key algorithm, n outside. -/
theorem check_out (F : Interp) (a x y n : Int) (b off c : Nat) (w : World) (hF : F.answers w.tape) (h : TabAt w b off c) (hl : lens a = (x, y, true)) (hn : ¬ (x ≤ n ∧ n ≤ y)) :
    Calls Ybaf.prog 12 #[.int .u32 a, .int .i64 n] w fun e w' => (∃ p, e = .returned (.iface 65 (.pointer (some p)))) ∧ Below w.heap.size w w' := by
  by_cases hxy : x = y
  · subst hxy
    exact check_one F a x n b off c w hF h hl (by simp; omega)
  · by_cases hlow : n < x
    · exact check_low F a x y n b off c w hF h hl hxy hlow
    · exact check_high F a x y n b off c w hF h hl hxy (by omega) (by omega)

set_option maxHeartbeats 2000000 in
theorem check_walk (F : Interp) (sel raw n : Int) (b off c : Nat) (w : World) (hF : F.answers w.tape) (h : TabAt w b off c) (h0 : 0 ≤ sel) (h1 : sel ≤ 255) :
    Calls Ybaf.prog 5 #[.int .u8 sel, .int .u32 raw, .int .i64 n] w fun e w' => e = .returned (.bool true) ∧ Below w.heap.size w w' := by
  go_enter Ybaf.func5, Ybaf.ntmps5
  go_wp2_with fail
  refine (pick_any sel raw _ h0 h1).mono ?_
  rintro e w1 ⟨⟨a, rfl⟩, rfl⟩
  clear h0 h1
  rcases lens_cases a with ⟨x, y, hl⟩ | hl
  · have hm := model_any a
    rw [hl] at hm
    by_cases hn : x ≤ n ∧ n ≤ y
    · have hs := check_in a x y n b off c w1 h hl hn.1 hn.2
      clear hl
      obtain ⟨hx, hy⟩ := hn
      go_wp2_with fail
      refine hs.mono ?_
      rintro e w2 ⟨rfl, hb⟩
      clear hs
      go_wp2_with fail
      refine (hm _).mono ?_
      rintro e w3 ⟨rfl, rfl⟩
      clear hm
      go_wp2
      go_ret
      exact ⟨rfl, hb⟩
    · have hs := check_out F a x y n b off c w1 hF h hl hn
      clear hl
      by_cases hx : x ≤ n
      · have hy : decide (n ≤ y) = false := decide_eq_false fun hy => hn ⟨hx, hy⟩
        clear hn
        go_wp2_with fail
        refine hs.mono ?_
        rintro e w2 ⟨⟨p, rfl⟩, hb⟩
        clear hs
        go_wp2_with fail
        refine (hm _).mono ?_
        rintro e w3 ⟨rfl, rfl⟩
        clear hm
        go_wp2
        go_ret
        exact ⟨rfl, hb⟩
      · clear hn
        go_wp2_with fail
        refine hs.mono ?_
        rintro e w2 ⟨⟨p, rfl⟩, hb⟩
        clear hs
        go_wp2_with fail
        refine (hm _).mono ?_
        rintro e w3 ⟨rfl, rfl⟩
        clear hm
        go_wp2
        go_ret
        exact ⟨rfl, hb⟩
  · have hm := model_any a
    rw [hl] at hm
    have hs := check_no F a n b off c w1 hF h hl
    clear hl
    go_wp2_with fail
    refine hs.mono ?_
    rintro e w2 ⟨⟨p, rfl⟩, hb⟩
    clear hs
    go_wp2_with fail
    refine (hm _).mono ?_
    rintro e w3 ⟨rfl, rfl⟩
    clear hm
    go_wp2
    go_ret
    exact ⟨rfl, hb⟩
end Go.Proofs.YbulkdcraFmt
