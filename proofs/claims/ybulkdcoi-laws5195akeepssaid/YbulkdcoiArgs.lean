/-
  A SLICE OF INTEGERS THAT CAME IN, told as the walks ask it.
-/
import Derived.Test.YbulkdcoiFin
import Derived.OpenShut
namespace Go.Proofs.Ybulkdcoi
open Go.WideShapes Go.RowKit

theorem row_parts {k : IntKind} {w : World} {a : Option Addr} {len cap : Nat} {zs : List Int}
    (h : (a = none ∧ len = 0 ∧ cap = 0 ∧ zs = []) ∨ ∃ x, a = some x ∧ len ≤ cap ∧ cap ≤ maxLen ∧ zs.length = cap ∧ (∀ i, i < zs.length → w.cell? (x.add i) = some (.int k (zs.getD i 0))) ∧ ∀ n ∈ zs, (Lit.int k n).wf = true) :
    ∃ b off, (0 < len → a = some ⟨b, off, none⟩) ∧ ∀ i, i < len → w.cell? ⟨b, off + i, none⟩ = some (.int k (zs.getD i 0)) := by
  rcases h with ⟨rfl, rfl, _, _⟩ | ⟨⟨b, off, spot⟩, rfl, hl, _, hz, hc, _⟩
  · exact ⟨0, 0, fun h => absurd h (Nat.lt_irrefl 0), fun i hi => absurd hi (Nat.not_lt_zero i)⟩
  · by_cases h0 : 0 < len
    · have hsp : spot = none := by simpa [Addr.add] using World.cell?_spot (hc 0 (by omega))
      subst hsp
      exact ⟨b, off, fun _ => rfl, fun i hi => by have := hc i (by omega); rw [add_plain] at this; exact this⟩
    · exact ⟨0, 0, fun h => absurd h h0, fun i hi => by omega⟩

theorem row_wf {k : IntKind} {w : World} {a : Option Addr} {len cap : Nat} {zs : List Int} (h0 : (Lit.int k 0).wf = true)
    (h : (a = none ∧ len = 0 ∧ cap = 0 ∧ zs = []) ∨ ∃ x, a = some x ∧ len ≤ cap ∧ cap ≤ maxLen ∧ zs.length = cap ∧ (∀ i, i < zs.length → w.cell? (x.add i) = some (.int k (zs.getD i 0))) ∧ ∀ n ∈ zs, (Lit.int k n).wf = true) (i : Nat) : (Lit.int k (zs.getD i 0)).wf = true := by
  by_cases hi : i < zs.length
  · have e : zs.getD i 0 = zs[i] := by simp [List.getD, hi]
    rw [e]
    rcases h with ⟨_, _, _, rfl⟩ | ⟨_, _, _, _, _, _, hw⟩
    · exact absurd hi (Nat.not_lt_zero i)
    · exact hw _ (List.getElem_mem hi)
  · have e : zs.getD i 0 = 0 := by simp [List.getD, List.getElem?_eq_none (Nat.le_of_not_lt hi)]
    rw [e]
    exact h0
theorem bounds_i8 {n : Int} (h : (Lit.int .i8 n).wf = true) : -128 ≤ n ∧ n ≤ 127 := by
  simp [Lit.wf, IntKind.min, IntKind.max, IntKind.signed, IntKind.bits] at h
  omega
end Go.Proofs.Ybulkdcoi
