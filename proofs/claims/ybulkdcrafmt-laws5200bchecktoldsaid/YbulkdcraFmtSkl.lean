/-
  THE WALK OF 'sessionKeyLen': the table's lengths for a session-key algorithm; else 0, 0 and an error that is not nil.
-/
import Derived.Test.YbulkdcraFmtJoin
namespace Go.Proofs.YbulkdcraFmt
open Go.Shelf Go.RowKit Go.Lib
open Go.Extern.Stop Go.Stop Go.Extern

/-- The names gathered from the first k rows. -/
def nm (k : Nat) : List ByteArray := ((tbl.take k).filter fun r => decide (0 < r.2.2.2)).map fun r => r.2.1
theorem tbl_len : tbl.length = 13 := by decide +kernel
theorem take_snoc (k : Nat) (h : k < 13) : tbl.take (k + 1) = tbl.take k ++ [tbl[k]!] := by
  have hk : k < tbl.length := by rw [tbl_len]; exact h
  rw [List.take_succ_eq_append_getElem hk, getElem!_pos tbl k hk]
theorem nm_hit (k : Nat) (h : k < 13) (hm : 0 < tbl[k]!.2.2.2) : nm (k + 1) = nm k ++ [tbl[k]!.2.1] := by
  unfold nm; rw [take_snoc k h, List.filter_append]; generalize tbl[k]! = r at hm; simp [hm]
theorem nm_miss (k : Nat) (h : k < 13) (hm : ¬ 0 < tbl[k]!.2.2.2) : nm (k + 1) = nm k := by
  unfold nm; rw [take_snoc k h, List.filter_append]; generalize tbl[k]! = r at hm; simp [hm]
theorem nm_le (k : Nat) : (nm k).length ≤ k := by
  unfold nm
  rw [List.length_map]
  exact Nat.le_trans (List.length_filter_le _ _) (List.length_take_le _ _)
theorem nm_all : nm 13 = names8 := by
  unfold nm names8; rw [show tbl.take 13 = tbl from List.take_of_length_le (by rw [tbl_len]; exact Nat.le_refl _)]
theorem info9 : (Ybaf.prog.info? 9).map (fun i => (i.zero, i.size, i.bytes)) = some (some (.string { data := #[] }), 1, 16) := by kernel_rfl

theorem one_new2 (w : World) (o : Obj) (x : Value) (t : TypeId) : ∀ (j : Nat) (u : Value), [x][j]? = some u → ((w.alloc o).alloc (.cells #[x] t)).cell? ((⟨w.heap.size + 1, 0, none⟩ : Addr).add j) = some u := by
  have := cell_one_new (w.alloc o) x t
  rw [World.size_alloc] at this
  exact this

theorem rel_hit {w wr w1 : World} {v v' : Value} {k B : Nat} {r : Row} (hk : k < 13) (hr : Hid (tbl[k]! = r)) (hm : 0 < r.2.2.2) (hB : B ≤ wr.heap.size) (o o' : Obj) (hnx : Below B w wr)
    (hown' : w1.ownsRow B 9 1 v' ((nm k).length + 1) ((nm k).map Value.string ++ [Value.string r.2.1])) (hown : wr.ownsRow B 9 1 v (nm k).length ((nm k).map Value.string)) (hg : ((wr.alloc o).alloc o').grownBy w1 v.ownBlock) :
    w1.ownsRow B 9 1 v' (nm (k + 1)).length ((nm (k + 1)).map Value.string) ∧ Below B w w1 := by
  rw [nm_hit k hk (by rw [hr.out]; exact hm), hr.out]
  refine ⟨by simpa using hown', ((hnx.alloc hB o).alloc (by simp; omega) o').grown hg (by simp; omega) (fun j hj => (hown.lt j hj).1)⟩

set_option maxRecDepth 100000 in
set_option maxHeartbeats 4000000 in
theorem skl_err (F : Interp) (a : Int) (b off c : Nat) (w : World) (hF : F.answers w.tape) (h : TabAt w b off c) (y0 : Int) (y1 : ByteArray) (y2 y3 : Int) (okv : Bool)
    (hcon : Calls Ybaf.prog 28 #[.int .u32 a] w fun e w' => e = .returned (.tuple #[.agg #[.int .u32 y0, .string y1, .int .i64 y2, .int .i64 y3], .bool okv]) ∧ Below w.heap.size w w') (hno : okv = false ∨ (okv = true ∧ y3 = 0)) :
    Calls Ybaf.prog 10 #[.int .u32 a] w fun e w' => (∃ p, e = .returned (.tuple #[.int .i64 0, .int .i64 0, .iface 65 (.pointer (some p))])) ∧ Below w.heap.size w w' := by
  obtain ⟨i0, hi, hz0, hz1, hz2⟩ := info_parts info9
  rcases hno with rfl | ⟨rfl, rfl⟩
  all_goals
    go_enter Ybaf.func10, Ybaf.ntmps10
    go_wp2_with fail
    refine hcon.mono ?_
    rintro e w1 ⟨rfl, hb1⟩
    clear hcon
    have h1 := h.below hb1
    have c0 := h1.1
    have s0 := h1.2.1
    go_wp2
    go_loopw [7, 27] (fun v i wr => ∃ k : Nat, k ≤ 13 ∧ i = .int .i64 k ∧ wr.ownsRow w.heap.size 9 1 v (nm k).length ((nm k).map Value.string) ∧ Below w.heap.size w wr) (fun _ i _ => 13 - (intOf i).toNat)
    case atStart => exact ⟨0, Nat.zero_le _, rfl, World.ownsRow_nil _ _ _ _, hb1.alloc hb1.size _⟩
    case round =>
      obtain ⟨k, hk, rfl, hown, hnx⟩ := hrel
      have hB := hnx.size
      clear h1 c0 s0
      by_cases hlt : k < 13
      · obtain ⟨r0, r1, r2, r3⟩ := tab_rows (h.below hnx) k hlt
        obtain ⟨r, hr⟩ : ∃ r, Hid (tbl[k]! = r) := ⟨_, rfl⟩
        rw [hr.out] at r0 r1 r2 r3
        have hltz : (k : Int) < 13 := by omega
        by_cases hm : 0 < r.2.2.2
        · go_wp2_with (first | (at_builtin; refine wpList_append_own _ rfl _ _ 56 rfl w.heap.size 9 i0 (.string { data := #[] }) 1 16 Ybaf.underlying56 hi hz0 hz1 hz2 rfl (by decide) _ _ _ rfl ((hown.alloc _).alloc _) ⟨wr.heap.size + 1, 0, none⟩ 1 1 [.string r.2.1] rfl rfl (one_new2 _ _ _ _) (by intro u hu; simp at hu; subst hu; rfl) (by have := nm_le k; unfold maxLen; omega) (by have := nm_le k; omega) (by simp; omega) ?_; intro v' w3 hown' hgrow _) | go_in)
          have R := rel_hit hlt hr hm hB _ _ hnx hown' hown hgrow
          clear hown' hgrow hown r0 r1 r2 r3 hr hnx
          go_wp2
          go_roundw
          case rel => exact ⟨k + 1, by omega, by go_num, R.1, R.2⟩
          case measure => simp [intOf]; omega
        · have hm' : Hid (nm (k + 1) = nm k) := nm_miss k hlt (by rw [hr.out]; exact hm)
          go_wp2
          go_roundw
          case rel => exact ⟨k + 1, by omega, by go_num, by rw [hm'.out]; exact hown.alloc _, hnx.alloc hB _⟩
          case measure => simp [intOf]; omega
      · have hk13 : k = 13 := by omega
        subst hk13
        rw [nm_all] at hown
        obtain ⟨hl, hv⟩ := hown
        rw [names8_len] at hv
        rcases hv with ⟨_, h8⟩ | ⟨g, cap, cur, rfl, hg, hcur, hcap, hcm, hsz, htk⟩
        · cases h8
        have hgs : g < wr.heap.size := (Array.getElem?_eq_some_iff.1 hcur).1
        have hcells : ∀ (j : Nat) x, names8[j]? = some x → wr.cell? ⟨g, 0 + j, none⟩ = some (.string x) := by
          intro j x hx
          have hj : j < 8 := by
            have := (List.getElem?_eq_some_iff.1 hx).1
            rwa [names8_len] at this
          have hu : (names8.map Value.string)[j]? = some (.string x) := by rw [List.getElem?_map, hx]; rfl
          rw [← htk, List.getElem?_take, if_pos (by omega)] at hu
          rw [Nat.zero_add]
          simp only [World.cell?, hcur]
          simpa using hu
        have hcon2 := joinList_any g 0 cap wr hgs hcap hcm hcells
        have hT := h.below hnx
        clear hcells hcur htk hsz hl
        go_wp2_with fail
        refine hcon2.mono ?_
        rintro e w4 ⟨⟨s, rfl⟩, hb4⟩
        clear hcon2
        have hb5 := hnx.trans (hb4.mono hB)
        have hF5 : F.answers (w4.alloc (.cells #[.iface 36 (.int .u32 a), .iface 9 (.string s)] 20)).tape := by show F.answers w4.tape; rw [hb5.tape]; exact hF
        have hcon3 := errorf1 F a s b off c w4.heap.size (w4.alloc (.cells #[.iface 36 (.int .u32 a), .iface 9 (.string s)] 20)) hF5 (h.below (hb5.alloc hb5.size _)) (by simp) (by simp)
        go_wp2_with fail
        refine hcon3.mono ?_
        rintro e w6 ⟨⟨p, rfl⟩, hb6⟩
        clear hcon3
        go_wp2
        go_ret3
        exact ⟨⟨p, rfl⟩, (hb5.alloc hb5.size _).trans (hb6.mono (by have := hb5.size; simp; omega))⟩

set_option maxRecDepth 100000 in
set_option maxHeartbeats 1000000 in
theorem skl_ok (a : Int) (w : World) (y0 : Int) (y1 : ByteArray) (y2 y3 : Int) (hpos : 0 < y3)
    (hcon : Calls Ybaf.prog 28 #[.int .u32 a] w fun e w' => e = .returned (.tuple #[.agg #[.int .u32 y0, .string y1, .int .i64 y2, .int .i64 y3], .bool true]) ∧ Below w.heap.size w w') :
    Calls Ybaf.prog 10 #[.int .u32 a] w fun e w' => e = .returned (.tuple #[.int .i64 y2, .int .i64 y3, .nilIface]) ∧ Below w.heap.size w w' := by
  go_enter Ybaf.func10, Ybaf.ntmps10
  go_wp2_with fail
  refine hcon.mono ?_
  rintro e w1 ⟨rfl, hb1⟩
  clear hcon
  go_wp2
  go_quiet (fail)
  go_wp2
  go_ret3
  exact ⟨rfl, below_drewN (hb1.alloc hb1.size _) _⟩
end Go.Proofs.YbulkdcraFmt
