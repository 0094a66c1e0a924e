/-
  THE STATEMENT 'Rows.LawS5195BHandCardSaid' (a tied card), PROVED: the seven cases joined, the sentinel's cell off 'laid', the row, the card.
-/
import Derived.Test.YbulkdcoiDoorCards
import Derived.Test.YbulkdcoiDoorTie
import Derived.Test.YbulkdcoiDoorLawN
import Derived.ProofKit
import Derived.LaidMore
import Derived.OpenShut
import Derived.Stop.Joined
import Derived.Stop.LaidErr
import Derived.WalkSmall
import Derived.ChangeMaps5
import Derived.ChangeVars
import Derived.SevenTiedAt
namespace Go.Proofs.YbulkdcoiDoor.lawS5195BHand
open Go.ChangeShapes Go.WideShapes Go.ChangeAt Go.RowKit Go.ChangeMaps
set_option linter.unusedVariables false

/-- THE LAW ANSWERS TRUE, WHATEVER THE INPUT, where the sentinel's variable holds a pointer. -/
theorem law_walk (shed name : ByteArray) (size room : Int) (inQ : Bool) (x : Addr) (w : World) (h0 : 0 ≤ size) (h1 : size ≤ 255) (hsz : name.size ≤ maxLen) (hp : 0 < w.heap.size) (hv : w.cell? ⟨0, 0, none⟩ = some (.iface 119 (.pointer (some x)))) :
    Calls Ybad.prog 3 #[.string shed, .string name, .int .u8 size, .bool inQ, .int .i64 room] w fun e w' => e = .returned (.bool true) ∧ Below w.heap.size w w' := by
  cases hs : shed.toList.isEmpty <;> cases inQ
  · exact law_off_shed shed name size room x w h0 h1 hs hp hv
  · cases hn : name.toList.isEmpty
    · exact law_named_shed shed name size room x w h0 h1 hs hn hsz hp hv
    · exact law_own_shed shed name size room x w h0 h1 hs hn hp hv
  · exact law_off_on shed name size room x w h0 h1 hs hp hv
  · cases hn : name.toList.isEmpty
    · by_cases h5 : size % 5 = 0
      · exact law_named_last shed name size room x w h0 h1 hs h5 hn hsz hp hv
      · exact law_named_keep shed name size room x w h0 h1 hs (by omega) hn hsz hp hv
    · exact law_own_on shed name size room x w h0 h1 hs hn hp hv

def varName : String := Rows.lawS5195BHandSpec.vars.headD ""
theorem gE : Ybad.prog.globalNamed varName = some 0 := by kernel_rfl
theorem tE : (Ybad.prog.globals[0]?).map (·.type) = some 72 := by kernel_rfl
theorem cells151 : Ybad.prog.cellsOf 151 = 1 := by kernel_rfl
theorem cells9 : Ybad.prog.cellsOf 9 = 1 := by kernel_rfl
theorem own : ownKnob Ybad.prog.godebug = none := by kernel_rfl

/-- The door's own heap meets the condition: three closed facts. -/
theorem door_met (os : Os) (args : Array Value) : laidMetH Ybad.prog Rows.lawS5195BHandRow.laid ((World.doorLaid Ybad.prog 28 os).forCall (fun _ _ => 0) ⟨#[], args, []⟩).memory :=
  laidMetH_of_parts3 (fuel := 8) (laidMet_of_run' 8 (by kernel_rfl) (by kernel_rfl)) (by kernel_rfl) (by kernel_rfl)

set_option maxRecDepth 100000 in
theorem lifted (os : Os) (started : os.Started) (H : Type) (enc : TypeId × Value → H) :
    ReturnsInHanded {} Ybad.checked os 3 .any (fun w args => (Rows.lawS5195BHandSpec.pre enc Ybad.prog Ybad.f3 [] false w args ∧ laidMetH Ybad.prog Rows.lawS5195BHandRow.laid w) ∧ sizedMet enc Ybad.prog Ybad.f3 (OpenSpec.ofChange Rows.lawS5195BHandSpec) false w args)
      (Rows.lawS5195BHandSpec.post enc Ybad.prog Ybad.f3 false true false false) := by
  refine returnsInHanded_of_change_and (C := Ybad.checked) (X := fun w _ => laidMetH Ybad.prog Rows.lawS5195BHandRow.laid w) (fun _ _ _ hh h => h.of_heap hh) own started (by kernel_rfl) Ybad.func3
    (ChangeSpec.witness_shaped (enc := enc) (C := Ybad.checked) (os := os) (X := fun w _ => laidMetH Ybad.prog Rows.lawS5195BHandRow.laid w) false (World.doorLaid Ybad.prog 28 os) #[.string ⟨#[]⟩, .string ⟨#[]⟩, .int .u8 0, .bool false, .int .i64 0] 8 rfl (World.shaped_of_RefB (by kernel_rfl) (by kernel_rfl)) (by kernel_rfl) (by kernel_rfl) (by kernel_rfl) (door_met os _)) ?_
  intro W base args ds gs before hval0 hW _ _ hL _
  have hval : ∀ (j : Nat) t v, Ybad.f3.params[j]? = some t → args[j]? = some v → Value.okWide Ybad.prog W .any base t v := hval0
  have hW' := hW
  obtain ⟨p, q, hA0, hV0, rfl, hfz, hnd⟩ := hW
  have hA : DataW.TrodAll enc Ybad.prog W 0 (fun _ => true) true Ybad.f3.params.toList args.toList ds p := hA0
  have hV : DataW.TrodVars enc Ybad.prog W (fun _ => true) [varName] gs q := hV0
  rw [Ybad.params3] at hA hval
  obtain ⟨v0, vs0, d0, ds0, p0, q0, hargs, rfl, rfl, h0, hA⟩ := trodAll_cons hA
  obtain ⟨v1, v2, v3, v4, d1, d2, d3, d4, p1, p2, p3, p4, e4, rfl, rfl, h1, h2, h3, h4⟩ := trodAll_four (args := vs0.toArray) (by simpa using hA)
  obtain rfl : args = #[v0, v1, v2, v3, v4] := by
    obtain ⟨l⟩ := args
    have : vs0 = [v1, v2, v3, v4] := congrArg Array.toList e4
    subst this
    exact congrArg Array.mk hargs
  obtain ⟨shed, rfl, rfl, rfl, z0⟩ := open_string Ybad.underlying9 (hval 0 9 v0 rfl rfl) h0
  obtain ⟨name, rfl, rfl, rfl, z1⟩ := open_string Ybad.underlying9 (hval 1 9 v1 rfl rfl) h1
  obtain ⟨size, rfl, rfl, rfl, z2⟩ := open_int Ybad.underlying5 (hval 2 5 v2 rfl rfl) h2
  obtain ⟨inQ, rfl, rfl, rfl⟩ := open_bool Ybad.underlying4 (hval 3 4 v3 rfl rfl) h3
  obtain ⟨room, rfl, rfl, rfl, z4⟩ := open_int Ybad.underlying3 (hval 4 3 v4 rfl rfl) h4
  have hb2 := bounds_u8 z2
  rw [MakeChecks.laidMetH_plain _ _ _ (by kernel_rfl)] at hL
  obtain ⟨a0, s0, hv0, hc0, hs0, hz0⟩ := laid_sentinel hL gE tE Ybad.underlying72 (fun u h => typeName_ptr_named (nm := "errors.errorString") (by kernel_rfl) (by kernel_rfl) (by decide) u (h.trans (congrArg some (by decide)))) Ybad.underlying119 Ybad.underlying151 rfl rfl Ybad.underlying9 cells151 cells9
  obtain ⟨rfl, rfl⟩ := hV.unique (vars_read1 enc gE tE Ybad.underlying72 hv0 trivial _)
  clear hA0 hV0 hval0
  have hg0 : W.cell? ⟨0, 0, none⟩ = some (.iface 119 (.pointer (some a0))) := by simpa using World.var?_cell gE hv0 0
  have hp : 0 < W.heap.size := World.block_lt_of_cell? _ _ hg0
  refine (law_walk shed name size room inQ a0 W hb2.1 hb2.2 z1 hp hg0).mono fun e W' ⟨he, bel⟩ => ?_
  subst he
  exact ⟨_, rfl, _, _, _, [], _, _, hW', trodAll_mk1 (shut_bool Ybad.underlying4 _), trodAll_cons_mk (shut_string Ybad.underlying9 z0) (trodAll_mk4 (shut_string Ybad.underlying9 z1) (shut_int Ybad.underlying5 z2) (shut_bool Ybad.underlying4 _) (shut_int Ybad.underlying3 z4)),
    vars_read1 enc gE tE Ybad.underlying72 (var?_below bel gE hp hv0) trivial _, bel.frame _, fun h => by cases h⟩

theorem row : Rows.LawS5195BHandSaid :=
  OpenClaim.holds_of_wide 3 Ybad.f3 rfl rfl rfl rfl rfl rfl rfl ⟨rfl, rfl, rfl, rfl, rfl⟩ rfl rfl rfl rfl rfl (by kernel_rfl) Ybad.func3 (by kernel_rfl)
    (of_decide_eq_true (by kernel_rfl)) (by unfold Func.isWrapper; first | (rw [if_pos (by decide +kernel)]; kernel_rfl) | (rw [if_neg (by decide +kernel)]; exact ⟨rfl, rfl⟩))
    (fun os started H enc _ => lifted os started H enc)

theorem card : Claim7.holds Ybad.pinned (.plain (OpenSpec.ofChange Rows.lawS5195BHandSpec)) Rows.lawS5195BHandCard :=
  Claim7.holds_tied_plain_at .later [] [.sentinel] true _ true
    row (fun _ h => by cases h) (by kernel_rfl) (fun _ h => by cases h) lawS5195BHand_row_tie rfl ⟨rfl, rfl⟩ (by kernel_rfl) rfl
    (fun f fn hf hfn => by
      obtain rfl : f = 3 := Option.some.inj ((show Ybad.prog.funcNamed Rows.lawS5195BHandRow.func = some 3 by kernel_rfl).symm.trans hf) |>.symm
      obtain rfl : fn = Ybad.f3 := (Option.some.inj (Ybad.func3.symm.trans hfn)).symm
      exact ⟨by kernel_rfl, fun j t ht => by
        rw [Ybad.params3] at ht
        have hm : t ∈ [9, 9, 5, 4, 3] := by simpa using Array.mem_of_getElem? ht
        have hall : ([9, 9, 5, 4, 3].all fun u => !Ybad.prog.wantsStandIn u) = true := by kernel_rfl
        exact (show Ybad.prog.wantsStandIn t = false by simpa using List.all_eq_true.1 hall t hm)⟩)
    (by kernel_rfl)

/-- THE STATEMENT -/
theorem proved : Rows.LawS5195BHandCardSaid := card
#print axioms proved
end Go.Proofs.YbulkdcoiDoor.lawS5195BHand
