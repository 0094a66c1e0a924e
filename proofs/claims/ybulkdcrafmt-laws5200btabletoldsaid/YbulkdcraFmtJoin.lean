import Derived.Test.YbulkdcraFmtText
import Derived.Deep.QuietTactic
import Derived.Deep.RegionWith
import Derived.BigQuiet
namespace Go.Proofs.YbulkdcraFmt
open Go.Shelf Go.RowKit Go.Lib

/-- THE NAMES of the session-key algorithms, in the table's order. -/
def names8 : List ByteArray := (tbl.filter fun r => decide (0 < r.2.2.2)).map fun r => r.2.1

theorem join7_len : (Lib.join ((names8.take 7).map (·.data.toList)) (ByteArray.mk #[44, 32]).data.toList).length ≤ 140737488355328 := by decide +kernel
theorem join7_small : (ByteArray.mk (Lib.join ((names8.take 7).map (·.data.toList)) (ByteArray.mk #[44, 32]).data.toList).toArray).size ≤ 1000 := by decide +kernel
theorem names8_len : names8.length = 8 := by decide +kernel
theorem take7_len : (names8.take 7).length = 7 := by decide +kernel

theorem join_any (bk o c : Nat) (w : World) (hbk : bk < w.heap.size) (hcap : 8 ≤ c) (hcells : ∀ (j : Nat) x, names8[j]? = some x → w.cell? ⟨bk, o + j, none⟩ = some (.string x)) :
    Calls Ybaf.prog 40 #[.slice (some ⟨bk, o, none⟩) 7 c, .string { data := #[44, 32] }] w fun e w' => (∃ s, s.size ≤ 1000 ∧ e = .returned (.string s)) ∧ Below w.heap.size w w' := by
  have := Ybaf.strings_Join bk o c (names8.take 7) { data := #[44, 32] } w (fun j x hx => hcells j x (by
    rw [List.getElem?_take] at hx
    split at hx
    · exact hx
    · cases hx)) hbk (by rw [take7_len]; decide) (by rw [take7_len]; omega) join7_len
  rw [take7_len] at this
  exact this.mono fun e w' ⟨he, hb⟩ => ⟨⟨_, join7_small, he⟩, hb⟩

set_option maxHeartbeats 1000000 in
theorem joinList_any (bk o c : Nat) (w : World) (hbk : bk < w.heap.size) (hcap : 8 ≤ c) (hcc : c ≤ 9223372036854775807) (hcells : ∀ (j : Nat) x, names8[j]? = some x → w.cell? ⟨bk, o + j, none⟩ = some (.string x)) :
    Calls Ybaf.prog 29 #[.slice (some ⟨bk, o, none⟩) 8 c, .string { data := #[97, 110, 100] }] w fun e w' => (∃ s, e = .returned (.string s)) ∧ Below w.heap.size w w' := by
  have hcon := join_any bk o c w hbk hcap hcells
  have hcon1 := join_any bk o c w.drew hbk hcap hcells
  have h7 : ∃ x : ByteArray, x.size ≤ 1000 ∧ w.cell? ⟨bk, o + 7, none⟩ = some (.string x) := ⟨names8[7]!, by decide +kernel, hcells 7 _ (by decide +kernel)⟩
  obtain ⟨x7, hs7, hx7⟩ := h7
  clear hcells
  have hc7 : (7 : Int) ≤ (c : Int) := by omega
  have hw7 : IntKind.i64.wrap 7 = 7 := by decide
  go_enter Ybaf.func29, Ybaf.ntmps29
  go_wp2
  go_region_with (go_at_call 40; refine hcon1.mono ?_; rintro e w' ⟨⟨s, hs, rfl⟩, hb⟩; have hx7' : w'.cell? ⟨bk, o + 7, none⟩ = some (.string x7) := (hb.cell (p := ⟨bk, o + 7, none⟩) hbk).trans hx7)
  all_goals (go_wp2; go_ret)
  all_goals exact ⟨⟨_, rfl⟩, ((Below.refl _ w).drew).trans hb⟩
end Go.Proofs.YbulkdcraFmt
