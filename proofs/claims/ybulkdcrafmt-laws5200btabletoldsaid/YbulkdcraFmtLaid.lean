/-
  FROM THE ROW's CELL 'laid' TO THE TABLE IN MEMORY; and the witness: the heap that the door's own run leaves.
-/
import Derived.Test.YbulkdcraFmtTab
import Derived.ProofKit
import Derived.LaidMore
import Derived.OpenShut
import Derived.Stop.Joined
import Derived.Deep.Slices
import Derived.Lib.SmallJoins
import Derived.WalkSmall
namespace Go.Proofs.YbulkdcraFmt
open Go.ChangeShapes Go.WideShapes Go.ChangeAt Go.RowKit

/-- The variable's name, off the given row. -/
def algName : String := Rows.lawS5200BTableSpec.vars.headD ""
theorem gAlg : Ybaf.prog.globalNamed algName = some 0 := by kernel_rfl
theorem tAlg : (Ybaf.prog.globals[0]?).map (·.type) = some 57 := by kernel_rfl
theorem cells53 : Ybaf.prog.cellsOf 53 = 4 := by kernel_rfl
theorem cells36 : Ybaf.prog.cellsOf 36 = 1 := by kernel_rfl
theorem cells9 : Ybaf.prog.cellsOf 9 = 1 := by kernel_rfl
theorem cells3 : Ybaf.prog.cellsOf 3 = 1 := by kernel_rfl

/-- A row of the table, as data. -/
def rowData {H : Type} (r : Row) : DataW H := .agg [.lit (.int .u32 r.1), .lit (.string r.2.1.data.toList), .lit (.int .i64 r.2.2.1), .lit (.int .i64 r.2.2.2)]
theorem laid_is {H : Type} : (Rows.laid_example_com_blobsmith_blobsmith_algorithms : DataW H) = .slice (tbl.map rowData) [] := rfl

theorem list4 {α : Type} {l : List α} (h : l.length = 4) : ∃ a b c d, l = [a, b, c, d] := by
  match l, h with
  | [a, b, c, d], _ => exact ⟨a, b, c, d, rfl⟩

/-- A row that reads so HOLDS so. -/
theorem row_of {H : Type} {en : TypeId × Value → H} {W : World} {base : Nat} {sp : Nat → Bool} {held : Bool} {n : Nat} {cs : List Value} {r : Row} {pl : List MemPlace}
    (h : DataW.trod en Ybaf.prog W base sp held n 53 cs = some (rowData r, pl)) : cs = enc r := by
  obtain ⟨y0, y1, y2, y3, n', hy, hl, e0, e1, e2, e3⟩ := Joins.trod_struct4 Ybaf.underlying53 h
  rw [cells53] at hl
  simp only [Prod.mk.injEq, rowData, DataW.agg.injEq, List.cons.injEq, and_true] at hy
  obtain ⟨⟨r0, r1, r2, r3⟩, _⟩ := hy
  obtain ⟨c0, c1, c2, c3, rfl⟩ := list4 hl
  rw [show Ybaf.prog.cellsOf _ = 1 from cells36] at e0
  rw [show Ybaf.prog.cellsOf _ = 1 from cells9] at e1
  rw [show Ybaf.prog.cellsOf _ = 1 from cells3] at e2 e3
  obtain ⟨k0, a0, b0, _⟩ := DataW.trod_int Ybaf.underlying36 e0
  obtain ⟨s1, a1, b1, _⟩ := DataW.trod_string Ybaf.underlying9 e1
  obtain ⟨k2, a2, b2, _⟩ := DataW.trod_int Ybaf.underlying3 e2
  obtain ⟨k3, a3, b3, _⟩ := DataW.trod_int Ybaf.underlying3 e3
  rw [b0] at r0; rw [b1] at r1; rw [b2] at r2; rw [b3] at r3
  simp at r0 r1 r2 r3 a0 a1 a2 a3
  have hs : r.2.1 = s1 := bytes_inj (by simpa using r1)
  rw [a0, a1, a2, a3, enc, r0, hs, r2, r3]

theorem tab_of_laid {W : World} (h : laidMetH Ybaf.prog [(algName, Rows.laid_example_com_blobsmith_blobsmith_algorithms)] W) : ∃ b off c, TabAt W b off c := by
  rw [MakeChecks.laidMetH_plain _ _ _ (by kernel_rfl)] at h
  obtain ⟨ps, ⟨g0, t0, cs0, f0, p0, q0, hg0, ht0, hv0, hd0, _, _⟩, _, _⟩ := h
  obtain rfl := Option.some.inj (gAlg.symm.trans hg0)
  obtain rfl := Option.some.inj (tAlg.symm.trans ht0)
  rw [laid_is] at hd0
  rcases Deep.open_slice Ybaf.underlying57 hd0 with ⟨_, hx⟩ | ⟨a, len, cap, m, n, D, Pl, hcs, hb, hl, hcm, hm, hx, hel⟩
  · simp at hx
  simp only [Prod.mk.injEq, DataW.slice.injEq] at hx
  obtain ⟨⟨hD, _⟩, _⟩ := hx
  have hlen : len = 13 := by
    have := congrArg List.length hD
    simpa [tbl] using this.symm
  subst hlen
  have hDi : ∀ i, i < 13 → D i = rowData tbl[i]! := by
    intro i hi
    have := congrArg (fun l => l[i]?) hD
    have hti : i < tbl.length := hi
    simp [List.getElem?_map, hi, List.getElem?_eq_getElem hti] at this
    rw [getElem!_pos tbl i hti, ← this]
  have hm13 : 13 ≤ m := by rw [hm]; split <;> omega
  have cell : ∀ i, i < 13 → ∀ k v, (enc tbl[i]!)[k]? = some v → W.cell? (a.add (i * 4 + k)) = some v := by
    intro i hi k v hk
    obtain ⟨cs', h1, h2⟩ := hel i (by omega)
    rw [cells53] at h1
    obtain ⟨_, hl4, hc4⟩ := World.cells?_some h1
    rw [hDi i hi] at h2
    have hcs' := row_of h2
    subst hcs'
    have hk4 : k < 4 := (List.getElem?_eq_some_iff.1 hk).1
    have := hc4 k hk4
    rw [hk, Deep.add_add] at this
    exact this
  obtain ⟨b, off, spot⟩ := a
  have hspot : spot = none := by simpa [Addr.add] using World.cell?_spot (cell 0 (by decide) 0 _ rfl)
  subst hspot
  have h00 : W.cell? ⟨0, 0, none⟩ = some (.slice (some ⟨b, off, none⟩) 13 cap) := by
    have := World.var?_cell hg0 hv0 0
    rw [Array.eq_one_of_toList hcs] at this
    simpa using this
  have hbs : W.cell? ⟨b, off + 0 * 4 + 0, none⟩ = some (.int .u32 tbl[0]!.1) := by
    have := cell 0 (by decide) 0 _ rfl
    rw [Go.WideShapes.add_plain] at this
    exact this
  exact ⟨b, off, cap, h00, World.block_lt_of_cell? _ _ h00, World.block_lt_of_cell? _ _ hbs, fun j hj k v hk => by
    have := cell j hj k v hk
    rw [Go.WideShapes.add_plain, ← Nat.add_assoc] at this
    exact this⟩

theorem own : ownKnob Ybaf.prog.godebug = none := by kernel_rfl
theorem laidOut : laidOutB Ybaf.prog = true := by kernel_rfl

/-- THE NAMED VARIABLE READ AGAIN: below the heap's old size nothing has turned. -/
theorem vars_again {H : Type} {en : TypeId × Value → H} {W W' : World} {cs : Array Value} {fuel : Nat} {d : DataW H} {pv : List MemPlace} (hv : W.var? Ybaf.prog algName = some cs)
    (hd : DataW.trod en Ybaf.prog W 0 (fun _ => true) true fuel 57 cs.toList = some (d, pv)) (h0 : 0 < W.heap.size) (hb : Below W.heap.size W W') (hlt : ∀ x ∈ pv, x.block < W.heap.size) :
    DataW.TrodVars en Ybaf.prog W' (fun b => decide (b < W.heap.size)) [algName] [d] (MemPlace.row ⟨0, 0, none⟩ cs.size ++ pv) := by
  have hone : ∃ a l c, cs.toList = [.slice a l c] := by
    rcases Deep.open_slice Ybaf.underlying57 hd with ⟨e, _⟩ | ⟨a, len, cap, m, n, D, Pl, e, _⟩
    · exact ⟨_, _, _, e⟩
    · exact ⟨_, _, _, e⟩
  obtain ⟨a, l, c, e⟩ := hone
  obtain ⟨fuel', hd'⟩ := Below.trod laidOut (by kernel_rfl) (of_decide_eq_true (by kernel_rfl)) (v := .slice a l c) (⟨fuel, by rw [e] at hd; simpa [Value.cells] using hd⟩ : DataW.Trod en Ybaf.prog W 0 (fun _ => true) true 57 (.slice a l c) d pv) hb hlt
  exact trodVars_mk1 (enc := en) gAlg tAlg (var?_below hb gAlg h0 hv) (by rw [e]; simpa [Value.cells] using hd')

/-- The door's own heap meets the condition: three closed facts. -/
theorem door_met (os : Os) (args : Array Value) : laidMetH Ybaf.prog Rows.lawS5200BTableRow.laid ((World.doorLaid Ybaf.prog 57 os).forCall (fun _ _ => 0) ⟨#[], args, []⟩).memory :=
  laidMetH_of_parts3 (fuel := 8) (laidMet_of_run' 8 (by kernel_rfl) (by kernel_rfl)) (by kernel_rfl) (by kernel_rfl)

set_option maxRecDepth 100000 in
theorem table_row (os : Os) {H : Type} (en : TypeId × Value → H) :
    (OpenSpec.ofChange Rows.lawS5200BTableSpec).preRow en Ybaf.prog Ybaf.f4 Rows.lawS5200BTableRow.domain false Rows.lawS5200BTableRow.laid ((World.doorLaid Ybaf.prog 57 os).forCall (fun _ _ => 0) ⟨#[], #[.int .u8 0, .int .u32 0], []⟩).memory #[.int .u8 0, .int .u32 0] :=
  OpenSpec.preRow_of_B rfl 8 (by kernel_rfl) (by kernel_rfl) (door_met os _)
set_option maxRecDepth 100000 in
theorem check_row (os : Os) {H : Type} (en : TypeId × Value → H) :
    (OpenSpec.ofChange Rows.lawS5200BCheckSpec).preRow en Ybaf.prog Ybaf.f5 Rows.lawS5200BCheckRow.domain false Rows.lawS5200BCheckRow.laid ((World.doorLaid Ybaf.prog 57 os).forCall (fun _ _ => 0) ⟨#[], #[.int .u8 0, .int .u32 0, .int .i64 0], []⟩).memory #[.int .u8 0, .int .u32 0, .int .i64 0] :=
  OpenSpec.preRow_of_B rfl 8 (by kernel_rfl) (by kernel_rfl) (door_met os _)
end Go.Proofs.YbulkdcraFmt
