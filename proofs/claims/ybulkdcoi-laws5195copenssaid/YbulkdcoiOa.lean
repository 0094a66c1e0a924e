/-
  WHAT 'LawS5195COpens' IS HANDED, told as its walk asks it: the row of bytes, the bounds; and the law at every input.
-/
import Derived.Test.YbulkdcoiLw
import Derived.OpenShut
namespace Go.Proofs.Ybulkdcoi
open Go.WideShapes Go.RowKit

theorem row_parts8 {w : World} {a : Option Addr} {len cap : Nat} {zs : List Int}
    (h : (a = none ∧ len = 0 ∧ cap = 0 ∧ zs = []) ∨ ∃ x, a = some x ∧ len ≤ cap ∧ cap ≤ maxLen ∧ zs.length = cap ∧ (∀ i, i < zs.length → w.cell? (x.add i) = some (.int .u8 (zs.getD i 0))) ∧ ∀ n ∈ zs, (Lit.int .u8 n).wf = true) :
    ∃ b off, (0 < len → a = some ⟨b, off, none⟩) ∧ ∀ i, i < len → w.cell? ⟨b, off + i, none⟩ = some (.int .u8 (zs.getD i 0)) := by
  rcases h with ⟨rfl, rfl, _, _⟩ | ⟨⟨b, off, spot⟩, rfl, hl, _, hz, hc, _⟩
  · exact ⟨0, 0, fun h => absurd h (Nat.lt_irrefl 0), fun i hi => absurd hi (Nat.not_lt_zero i)⟩
  · by_cases h0 : 0 < len
    · have hsp : spot = none := by simpa [Addr.add] using World.cell?_spot (hc 0 (by omega))
      subst hsp
      exact ⟨b, off, fun _ => rfl, fun i hi => by have := hc i (by omega); rw [add_plain] at this; exact this⟩
    · exact ⟨0, 0, fun h => absurd h h0, fun i hi => by omega⟩

theorem row_wf8 {w : World} {a : Option Addr} {len cap : Nat} {zs : List Int}
    (h : (a = none ∧ len = 0 ∧ cap = 0 ∧ zs = []) ∨ ∃ x, a = some x ∧ len ≤ cap ∧ cap ≤ maxLen ∧ zs.length = cap ∧ (∀ i, i < zs.length → w.cell? (x.add i) = some (.int .u8 (zs.getD i 0))) ∧ ∀ n ∈ zs, (Lit.int .u8 n).wf = true) (i : Nat) : (Lit.int .u8 (zs.getD i 0)).wf = true := by
  by_cases hi : i < zs.length
  · have e : zs.getD i 0 = zs[i] := by simp [List.getD, hi]
    rw [e]
    rcases h with ⟨_, _, _, rfl⟩ | ⟨_, _, _, _, _, _, hw⟩
    · exact absurd hi (Nat.not_lt_zero i)
    · exact hw _ (List.getElem_mem hi)
  · have e : zs.getD i 0 = 0 := by simp [List.getD, List.getElem?_eq_none (Nat.le_of_not_lt hi)]
    rw [e]
    decide

theorem bounds_i64 {n : Int} (h : (Lit.int .i64 n).wf = true) : -9223372036854775808 ≤ n ∧ n ≤ 9223372036854775807 := by
  simp [Lit.wf, IntKind.min, IntKind.max, IntKind.signed, IntKind.bits] at h
  omega

set_option maxRecDepth 100000 in
/-- More than 400 bytes: the law answers at once. -/
theorem law_long (a0 : Int) (a1 : Option Addr) (n cap : Nat) (w : World) (hn : 400 < n) :
    Calls Yba.prog 5 #[.int .i64 a0, .slice a1 n cap] w fun e w' => e = .returned (.bool true) ∧ Below w.heap.size w w' := by
  have hnz : (n : Int) > 400 := by omega
  go_enter Yba.func5, Yba.ntmps5
  go_wp2
  go_ret
  exact ⟨rfl, Below.refl _ _⟩

theorem law_all (a0 : Int) (a1 : Option Addr) (n cap : Nat) (zs : List Int) (w : World) (h0 : (Lit.int .i64 a0).wf = true)
    (h : (a1 = none ∧ n = 0 ∧ cap = 0 ∧ zs = []) ∨ ∃ x, a1 = some x ∧ n ≤ cap ∧ cap ≤ maxLen ∧ zs.length = cap ∧ (∀ i, i < zs.length → w.cell? (x.add i) = some (.int .u8 (zs.getD i 0))) ∧ ∀ m ∈ zs, (Lit.int .u8 m).wf = true) :
    Calls Yba.prog 5 #[.int .i64 a0, .slice a1 n cap] w fun e w' => e = .returned (.bool true) ∧ Below w.heap.size w w' := by
  by_cases hn : n ≤ 400
  · obtain ⟨b, off, p, q⟩ := row_parts8 h
    exact law_main a0 a1 b off n cap (fun j => zs.getD j 0) w hn p q (fun j => bounds_u8 (row_wf8 h j)) (bounds_i64 h0).1 (bounds_i64 h0).2
  · exact law_long a0 a1 n cap w (by omega)
end Go.Proofs.Ybulkdcoi
