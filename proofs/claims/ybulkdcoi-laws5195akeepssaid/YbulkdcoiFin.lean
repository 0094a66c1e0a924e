/-
  THE THREE CALLS OF THE TWO LAWS, and what they leave.
-/
import Derived.Test.YbulkdcoiBuild
namespace Go.Proofs.Ybulkdcoi
open Go.RowKit Go.Sort Go.Shelf Go.Lib
set_option linter.unusedVariables false

/-- WHAT THE LAWS ASK OF THE WORLD BEHIND THE THREE CALLS. -/
structure Fin3 (w w3 : World) (b off N g g' : Nat) (z : Nat → Int) (K : List Nat) : Prop where
  c17 : w3.cell? ⟨w.heap.size, 17, none⟩ = some (.slice (some ⟨w.heap.size + 1, 0, none⟩) N N)
  src : ∀ i, i < N → w3.cell? ⟨w.heap.size + 1, i * 46 + 34, none⟩ = some (.int .i32 ((z i).tmod 4))
  zs : ∀ i, i < N → w3.cell? ⟨b, off + i, none⟩ = some (.int .i8 (z i))
  got : ∀ i, i < K.length → w3.cell? ⟨g, i, none⟩ = some (.int .i32 ((K.getD i 0 : Nat) : Int))
  want : ∀ i, i < K.length → w3.cell? ⟨g', i, none⟩ = some (.int .i32 ((K.getD i 0 : Nat) : Int))
  bel : Below w.heap.size w w3

/-- The list that is built. -/
abbrev lo (N n1 : Nat) (x : Nat → Nat) : List Nat := vsUp N x (if N = 0 then 0 else n1)
theorem lo_lt (N n1 : Nat) (x : Nat → Nat) : ∀ v ∈ lo N n1 x, v < N := by
  intro v hv
  by_cases h : N = 0
  · simp [lo, h, vsUp] at hv
  · exact vsUp_lt N x _ (by omega) v hv
theorem lo_len (N n1 : Nat) (x : Nat → Nat) : (lo N n1 x).length ≤ n1 := by
  rw [lo, vsUp_len]
  split <;> omega

theorem own_shape {W : World} {B n : Nat} {v : Value} {K : List Nat} (h : W.ownsRow B 21 1 v n (encN K)) (hn : n = K.length) :
    ∃ ao g cap, v = .slice ao n cap ∧ (0 < n → ao = some ⟨g, 0, none⟩) ∧ ∀ i, i < n → W.cell? ⟨g, i, none⟩ = some (.int .i32 ((K.getD i 0 : Nat) : Int)) := by
  rcases h.2 with ⟨rfl, h0⟩ | ⟨g, cap, cur, rfl, _⟩
  · exact ⟨none, 0, 0, by rw [h0], fun h => by omega, fun i hi => by omega⟩
  · exact ⟨some ⟨g, 0, none⟩, g, cap, rfl, fun _ => rfl, fun i hi => by rw [h.cellAt i (by omega)]; exact enc_get K i (by omega)⟩

theorem fin_of {w W w2 w3 : World} {RB LB OB b off N c n1 p g g' M : Nat} {z : Nat → Int} {l K : List Nat} (h1 : Built w W RB LB OB N c n1 p (fun i => (z i).tmod 4) l) (h2 : Left W LB g M K w2) (h3 : Below w2.heap.size w2 w3)
    (hz : ∀ i, i < N → w.cell? ⟨b, off + i, none⟩ = some (.int .i8 (z i))) (hw : ∀ i, i < K.length → w3.cell? ⟨g', i, none⟩ = some (.int .i32 ((K.getD i 0 : Nat) : Int))) : Fin3 w w3 b off N g g' z K := by
  have n1 := h1.n1
  have lt := h1.lt
  have s2 := h2.grown.size
  have up : ∀ {b o : Nat} {v : Value}, W.cell? ⟨b, o, none⟩ = some v → b ≠ LB → w3.cell? ⟨b, o, none⟩ = some v := fun {b o v} h hb =>
    have h' := h2.grown.cell h (by simpa using hb)
    (h3.cell (p := ⟨b, o, none⟩) (World.block_lt_of_cell? _ _ h')).trans h'
  refine ⟨up h1.c17 (by omega), fun i hi => up (h1.src i hi) (by omega), fun i hi => ?_, fun i hi => (h3.cell (p := ⟨g, i, none⟩) (World.block_lt_of_cell? _ _ (h2.cells i hi))).trans (h2.cells i hi), hw, ?_⟩
  · have hb := World.block_lt_of_cell? _ _ (hz i hi)
    have hb' : b < w.heap.size := hb
    exact up ((h1.bel.cell (p := ⟨b, off + i, none⟩) hb).trans (hz i hi)) (by omega)
  · have b2 : Below w.heap.size w w2 := h1.bel.grown h2.grown (by omega) (fun k hk => by cases hk; omega)
    exact ⟨h3.os.trans b2.os, h3.tape.trans b2.tape, h3.output.trans b2.output, Nat.le_trans b2.size h3.size, fun k hk => (h3.block k (by have := b2.size; omega)).trans (b2.block k hk)⟩

/-- What the model is called with: the list's copy and the sources lie as they lay. -/
theorem mid_of {w W w2 : World} {RB LB OB b off N c n1 p g M : Nat} {z : Nat → Int} {l K : List Nat} (h1 : Built w W RB LB OB N c n1 p (fun i => (z i).tmod 4) l) (h2 : Left W LB g M K w2) (hz : ∀ i, i < N → w.cell? ⟨b, off + i, none⟩ = some (.int .i8 (z i))) :
    (∀ i, i < N → w2.cell? ⟨b, off + i, none⟩ = some (.int .i8 (z i))) ∧ ∀ j, j < l.length → w2.cell? ⟨OB, j, none⟩ = some (.int .i32 ((l.getD j 0 : Nat) : Int)) := by
  have n1 := h1.n1
  have n2 := h1.n2
  refine ⟨fun i hi => ?_, fun j hj => h2.grown.cell (h1.org j hj) (by simp; omega)⟩
  have hb := World.block_lt_of_cell? _ _ (hz i hi)
  have hb' : b < w.heap.size := hb
  exact h2.grown.cell ((h1.bel.cell (p := ⟨b, off + i, none⟩) hb).trans (hz i hi)) (by simp; omega)

/-- THE THREE CALLS, each told in the other's wake; the lists under names of their own. -/
theorem three_calls (a0 a1 : Option Addr) (b off N cap0 b1 off1 n1 cap1 ex ps : Nat) (z : Nat → Int) (x : Nat → Nat) (w : World) (hN : N ≤ 1024) (hn1 : n1 ≤ 1024) (hex : ex ≤ 255) (hps : ps ≤ 255)
    (hs : 0 < N → a0 = some ⟨b, off, none⟩) (hc : ∀ i, i < N → w.cell? ⟨b, off + i, none⟩ = some (.int .i8 (z i))) (hz : ∀ i, -128 ≤ z i ∧ z i ≤ 127)
    (hs1 : 0 < n1 → a1 = some ⟨b1, off1, none⟩) (hc1 : ∀ i, i < n1 → w.cell? ⟨b1, off1 + i, none⟩ = some (.int .u8 ((x i : Nat) : Int))) (hx : ∀ i, x i ≤ 255) :
    ∃ (l K : List Nat) (n k c M : Nat), k = K.length ∧ c = n1 + ex % 80 ∧ M = wantCap c k ∧ k ≤ c ∧
      Calls Yba.prog 6 #[.slice a0 N cap0, .slice a1 n1 cap1, .int .u8 (ex : Int), .int .i32 ((ps : Int) % 3)] w fun e W => ∃ OB, e = .returned (.tuple #[.pointer (some ⟨w.heap.size, 0, none⟩), .slice (some ⟨OB, 0, none⟩) n n1, .int .i64 (c : Int)]) ∧
        Calls Yba.prog 7 #[.pointer (some ⟨w.heap.size, 0, none⟩), .int .i32 ((ps : Int) % 3)] W fun e w2 => ∃ g, e = .returned (.slice (some ⟨g, 0, none⟩) k M) ∧
          Calls Yba.prog 8 #[.slice a0 N cap0, .slice (some ⟨OB, 0, none⟩) n n1, .int .i32 ((ps : Int) % 3)] w2 fun e w3 => ∃ ao g' cap', e = .returned (.slice ao k cap') ∧ (0 < k → ao = some ⟨g', 0, none⟩) ∧ Fin3 w w3 b off N g g' z K := by
  have ep : ((ps % 3 : Nat) : Int) = (ps : Int) % 3 := by omega
  have hll := lo_len N n1 x
  have hkl : (kz N (fun i => (z i).tmod 4) ((ps % 3 : Nat) : Int) (lo N n1 x)).length ≤ (lo N n1 x).length := Nat.le_trans (kz_le N _ _ _ (lo_lt N n1 x)) (kept_le _ _ _)
  refine ⟨lo N n1 x, kz N (fun i => (z i).tmod 4) ((ps % 3 : Nat) : Int) (lo N n1 x), (lo N n1 x).length, _, n1 + ex % 80, _, rfl, rfl, rfl, by omega, ?_⟩
  rw [← ep]
  refine (build_walk a0 a1 b off N cap0 b1 off1 n1 cap1 ex (ps % 3) z x w hN hn1 hex (by omega) hs hc hz hs1 hc1 hx).mono ?_
  rintro e W ⟨RB, LB, OB, rfl, hB⟩
  refine ⟨OB, rfl, ?_⟩
  refine (comp_walk (fun i => (z i).tmod 4) (ps % 3) w.heap.size (w.heap.size + 1) RB LB N (n1 + ex % 80) (lo N n1 x) W (by omega) (lo_lt N n1 x) hN (by omega) hB.c17 hB.c55 hB.crp hB.src hB.list (by have := hB.n1; omega) (by have := hB.n1; omega) (by omega) hB.lt).mono ?_
  rintro e w2 ⟨g, rfl, hL⟩
  refine ⟨g, rfl, ?_⟩
  obtain ⟨m1, m2⟩ := mid_of hB hL hc
  refine (model_walk a0 b off N cap0 OB n1 (ps % 3) z (lo N n1 x) w2 hN (by omega) (by omega) (lo_lt N n1 x) hs m1 hz m2).mono ?_
  rintro e w3 ⟨v, rfl, hown, hbel⟩
  obtain ⟨ao, g', cap', rfl, ha, hw⟩ := own_shape hown rfl
  exact ⟨ao, g', cap', rfl, ha, fin_of hB hL hbel hc hw⟩
end Go.Proofs.Ybulkdcoi
