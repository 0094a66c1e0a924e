/-
  THE STATEMENT 'Rows.LawS5200BTableToldSaid' (a card: fmt's text told, the listed variable tied), PROVED.
-/
import Derived.Test.YbulkdcraFmtCards
import Derived.Test.YbulkdcraFmtTie
import Derived.Test.YbulkdcraFmtLaws
import Derived.Test.YbulkdcraFmtLaid
import Derived.Stop.JoinedTold
import Derived.Deep.DeepWitnessRef
import Derived.SevenTiedAt
import Derived.SizedLaws
namespace Go.Proofs.YbulkdcraFmt.lawS5200BTable
open Go.ChangeShapes Go.WideShapes Go.ChangeAt Go.RowKit
open Go.Extern.Stop Go.Stop Go.Extern
set_option linter.unusedVariables false

set_option maxRecDepth 100000 in
set_option maxHeartbeats 1000000 in
theorem lifted (os : Os) (started : os.Started) (H : Type) (en : TypeId × Value → H) :
    ReturnsInTold none {} Ybaf.checked os 4 .any Input.okWide ((OpenSpec.ofChange Rows.lawS5200BTableSpec).preRow en Ybaf.prog Ybaf.f4 Rows.lawS5200BTableRow.domain false Rows.lawS5200BTableRow.laid)
      (fun F => ((OpenSpec.ofChange Rows.lawS5200BTableSpec).at F).post en Ybaf.prog Ybaf.f4 false true false false) (aloneAtReturn Ybaf.prog) nothingAlways := by
  refine returnsInTold_of_row (C := Ybaf.checked) (s := OpenSpec.ofChange Rows.lawS5200BTableSpec) (by kernel_rfl) own started (by kernel_rfl) Ybaf.func4
    (OpenSpec.witness_stopped_atRef (enc := en) (C := Ybaf.checked) false (World.doorLaid Ybaf.prog 57 os) #[.int .u8 0, .int .u32 0] rfl (by kernel_rfl) (by kernel_rfl) (by kernel_rfl) (table_row os en)) ?_
  intro F W base args ds gs before _ hF hval0 hW _ _ _ hL _
  have hval : ∀ (j : Nat) t v, Ybaf.f4.params[j]? = some t → args[j]? = some v → Value.okWide Ybaf.prog W .any base t v := hval0
  have hW' := hW
  obtain ⟨p, q, hA0, hV0, rfl, _, _⟩ := hW
  have hA : DataW.TrodAll en Ybaf.prog W 0 (fun _ => true) true Ybaf.f4.params.toList args.toList ds p := hA0
  have hV : DataW.TrodVars en Ybaf.prog W (fun _ => true) [algName] gs q := hV0
  rw [Ybaf.params4] at hA hval
  obtain ⟨v0, v1, d0, d1, p0, p1, rfl, rfl, rfl, h0, h1⟩ := trodAll_two hA
  obtain ⟨g, t, cs, fuel, d, pv, rfl, hg, ht, hv, hd, rfl⟩ := trodVars_one hV
  obtain ⟨a0, rfl, rfl, rfl, w0⟩ := open_int Ybaf.underlying5 (hval 0 5 v0 rfl rfl) h0
  obtain ⟨a1, rfl, rfl, rfl, w1⟩ := open_int Ybaf.underlying35 (hval 1 35 v1 rfl rfl) h1
  obtain rfl := Option.some.inj (gAlg.symm.trans hg)
  obtain rfl := Option.some.inj (tAlg.symm.trans ht)
  clear hA0 hV0 hval0
  obtain ⟨b, off, c, hT⟩ := tab_of_laid hL
  have hb0 := bounds_u8 w0
  refine (table_walk F.told a0 a1 b off c W hF hT hb0.1 hb0.2).mono fun e W' ⟨he, bel⟩ => ?_
  subst he
  have hltv : ∀ x ∈ pv, x.block < W.heap.size := fun x hx => hW'.lt x (List.mem_append_right _ (List.mem_append_right _ hx))
  exact ⟨_, rfl, _, _, _, [], _, _, hW', trodAll_mk1 (shut_bool Ybaf.underlying4 _), trodAll_mk2 (shut_int Ybaf.underlying5 w0) (shut_int Ybaf.underlying35 w1), vars_again hv hd hT.2.1 bel hltv, bel.frame _, fun h => by cases h⟩

theorem stops : Ybaf.pinned.checked.prog.stops = Rows.lawS5200BTableRow.stops := by kernel_rfl
theorem stopKnobs : Ybaf.pinned.checked.prog.stopKnobs = [] := by kernel_rfl
theorem quiet (os : Os) : Stop.quiet Ybaf.pinned.checked.prog os := by
  intro k hk
  rw [stopKnobs] at hk
  cases hk

theorem card : Claim7.holds Ybaf.pinned (.plain (OpenSpec.ofChange Rows.lawS5200BTableSpec)) Rows.lawS5200BTableCard :=
  Claim7.holds_of_told_tied_any_at .later 4 Ybaf.f4 _ _ [] _ _ _ _ _ (by kernel_rfl) rfl rfl rfl laidOut (by kernel_rfl) rfl ⟨rfl, rfl, rfl, rfl, rfl, rfl, rfl⟩ rfl rfl (by kernel_rfl) (by kernel_rfl) Ybaf.func4 (by kernel_rfl)
    (of_decide_eq_true (by kernel_rfl)) (by unfold Func.isWrapper; first | (rw [if_pos (by decide +kernel)]; kernel_rfl) | (rw [if_neg (by decide +kernel)]; exact ⟨rfl, rfl⟩)) stops.symm rfl stopKnobs.symm (by kernel_rfl)
    (by kernel_rfl) (by kernel_rfl) (by kernel_rfl) (by kernel_rfl) (by kernel_rfl) (by kernel_rfl) (by kernel_rfl) (by kernel_rfl) (by kernel_rfl) rfl (by kernel_rfl) rfl rfl
    rfl rfl
    rfl (by kernel_rfl) (by kernel_rfl) (by kernel_rfl) (by decide) (by kernel_rfl) lawS5200BTable_row_tie
    (OpenClaim.moreEntering_of (by kernel_rfl) (by kernel_rfl) (by kernel_rfl) (by kernel_rfl) (by kernel_rfl) (by kernel_rfl) (by kernel_rfl) (by kernel_rfl) (by kernel_rfl) (by kernel_rfl))
    ⟨_, WideRow.started_initial, quiet _⟩
    (fun os started _ H en _ => lifted os started H en)

/-- THE STATEMENT -/
theorem proved : Rows.LawS5200BTableToldSaid := card
#print axioms proved
end Go.Proofs.YbulkdcraFmt.lawS5200BTable
