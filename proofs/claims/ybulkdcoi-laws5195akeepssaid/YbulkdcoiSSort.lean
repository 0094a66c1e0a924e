/-
  slices.Sort AT int32: the parts joined.
  THE WALK OF THE KIT'S OWN TOY 'so' (Derived/Sort), TURNED TO THIS PROGRAM: its numbers, its element type int32.
-/
import Derived.Test.YbulkdcoiSIns
import Derived.Test.YbulkdcoiSPar
import Derived.Test.YbulkdcoiSPeq
import Derived.Test.YbulkdcoiSPrt
import Derived.Test.YbulkdcoiSBrk
import Derived.Test.YbulkdcoiSPiv
import Derived.Test.YbulkdcoiSPdq
import Derived.Sort.AssemblyPlain
namespace Go.Proofs.Ybulkdcoi
open Go.Sort Go.RowKit

theorem callees : CalleesJ := {
  ins := Srt.insertionSort_int
  brk := Srt.breakPatterns_int
  piv := Srt.choosePivot_int
  par := Srt.partialInsertionSort_int
  peq := Srt.partitionEqualOrdered_int
  prt := Srt.partitionOrdered_int }

theorem plainI : Plain13 := {
  swo := swo_ltInt
  ins := insertionSort_holds
  par := partialInsertionSort_holds
  prt := partition_holds _
  peq := partitionEqual_holds _
  pdq := pdq_sorts _ }

def pdqWalkJ : Prop := ∀ (blk off cap a b limit : Nat) (d : Array Int) (w : World), Holds (Value.int .i32) w blk off d → blk < w.heap.size → a ≤ b → b ≤ d.size → d.size < 4611686018427387904 → limit < 4611686018427387904 → Below ltInt a b d →
  Calls Yba.prog 26 #[.slice (some ⟨blk, off, none⟩) d.size cap, .int .i64 a, .int .i64 b, .int .i64 limit] w fun e w' =>
    e = .returned (.tuple #[]) ∧ ∃ n os, w' = grow (putRow (Value.int .i32) (Sort.ahead w n) blk off (Sort.pdq ltInt d a b limit true true)) os

set_option maxRecDepth 100000 in
theorem Srt.Sort_int (hpdq : pdqWalkJ) (blk off cap : Nat) (d : Array Int) (w : World) (hH : Holds (Value.int .i32) w blk off d) (hblk : blk < w.heap.size) (hsz : d.size < 4611686018427387904) :
    Calls Yba.prog 18 #[.slice (some ⟨blk, off, none⟩) d.size cap] w fun e w' => e = .returned (.tuple #[]) ∧ ∃ n os, w' = grow (putRow (Value.int .i32) (Sort.ahead w n) blk off (Sort.sort ltInt d)) os := by
  have HH : Hid (Holds (Value.int .i32) w blk off d) := hH
  clear hH
  have hLen : ∀ w, Calls Yba.prog 27 #[.int .u64 (d.size : Int)] w fun e w' => e = .returned (.int .i64 (bitsLen d.size : Nat)) ∧ w' = w := fun w => by
    have h := Yba.bits_Len (d.size : Int) w (by omega) (by omega)
    rwa [Int.toNat_natCast, bitLen_eq _ (by omega)] at h
  have hk : bitsLen d.size ≤ 62 := (bitsLen_le_iff d.size 62).2 (by omega)
  go_enter Yba.func18, Yba.ntmps18
  go_wp2_with (first
    | (go_at_call 27; refine (hLen _).mono ?_; rintro e w' ⟨rfl, rfl⟩)
    | (go_at_call 26; refine (hpdq blk off cap 0 d.size (bitsLen d.size) d _ (by exact HH.out) (by exact hblk) (Nat.zero_le _) (Nat.le_refl _) hsz (by omega) (Or.inl rfl)).mono ?_; rintro e w' ⟨rfl, n, os, rfl⟩))
  go_end0
  exact ⟨rfl, n, os, rfl⟩

theorem Srt.insertionSort_int_nil (p : Option Addr) (cap : Nat) (w : World) :
    Calls Yba.prog 35 #[.slice p 0 cap, .int .i64 0, .int .i64 0] w fun e w' => e = .returned (.tuple #[]) ∧ w' = w := by
  go_enter Yba.func35, Yba.ntmps35
  go_wp2
  refine wp_loop_rounds 1 ?_
  rw [rounds_succ]
  go_wp2
  go_end0
  exact ⟨rfl, rfl⟩

set_option maxRecDepth 100000 in
theorem Srt.pdqsort_int_nil (p : Option Addr) (cap : Nat) (w : World) :
    Calls Yba.prog 26 #[.slice p 0 cap, .int .i64 0, .int .i64 0, .int .i64 0] w fun e w' => e = .returned (.tuple #[]) ∧ w' = w := by
  go_enter Yba.func26, Yba.ntmps26
  go_wp2
  refine wp_loop_rounds 1 ?_
  rw [rounds_succ]
  go_wp2_with (first | (go_at_call 35; refine (Srt.insertionSort_int_nil p cap _).mono ?_; rintro e w' ⟨rfl, rfl⟩))
  refine bodyPost_ret (results_none rfl _ _ _) rfl ?_
  exact ⟨rfl, rfl⟩

set_option maxRecDepth 100000 in
theorem Srt.Sort_int_nil (p : Option Addr) (cap : Nat) (w : World) :
    Calls Yba.prog 18 #[.slice p 0 cap] w fun e w' => e = .returned (.tuple #[]) ∧ w' = w := by
  have hLen : ∀ w, Calls Yba.prog 27 #[.int .u64 0] w fun e w' => e = .returned (.int .i64 0) ∧ w' = w := fun w => Yba.bits_Len 0 w (by omega) (by omega)
  go_enter Yba.func18, Yba.ntmps18
  go_wp2_with (first
    | (go_at_call 27; refine (hLen _).mono ?_; rintro e w' ⟨rfl, rfl⟩)
    | (go_at_call 26; refine (Srt.pdqsort_int_nil p cap _).mono ?_; rintro e w' ⟨rfl, rfl⟩))
  go_end0
  exact ⟨rfl, rfl⟩

theorem pdqWalkI : pdqWalkJ := fun blk off cap a b limit d w hH hb hab hbd hsz hl hB =>
  Srt.pdqsort_int callees plainI (b - a + 1) blk off cap a b limit d w (by omega) hH hb hab hbd hsz hl hB

/-- slices.Sort AT []int32: THE CELLS THEN HOLD THE SORTED LIST. -/
theorem Srt.slices_Sort (blk off cap : Nat) (zs : List Int) (w : World) (hH : Holds (Value.int .i32) w blk off zs.toArray) (hblk : blk < w.heap.size) (hsz : zs.length < 4611686018427387904) :
    Calls Yba.prog 18 #[.slice (some ⟨blk, off, none⟩) zs.length cap] w fun e w' =>
      e = .returned (.tuple #[]) ∧ ∃ n os, w' = grow (putRow (Value.int .i32) (Sort.ahead w n) blk off (zs.mergeSort fun x y => decide (x ≤ y)).toArray) os := by
  have h := Srt.Sort_int pdqWalkI blk off cap zs.toArray w hH hblk (by simpa using hsz)
  rw [← sortInt zs]
  simpa using h

end Go.Proofs.Ybulkdcoi
