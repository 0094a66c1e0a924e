/-
  THE LAW's STATE AT ITS START: fresh places, three rows.
-/
import Derived.Test.YbulkdcoiLO
import Derived.Laws.MakeOwn
namespace Go.Proofs.Ybulkdcoi
open Go.RowKit
set_option linter.unusedVariables false

theorem made_get {z : Value} (hz : z.cells = #[z]) {n j : Nat} (hj : j < n) : (madeCells z.cells n).toList[j]? = some z := by
  simp [madeCells, hz, hj, Nat.mod_one]

def g0 (w : World) : Gst :=
  { kd := fun b => if b = w.heap.size + 1 then (0, 0) else if b = w.heap.size + 2 then (8, 7) else if b = w.heap.size + 3 then (8, 8) else if b = w.heap.size + 4 then (8, 9) else (9, 9),
    s := { P := w.heap.size + 1, C := fun _ => 0, gid := fun _ => 0, sz := fun _ => 0, kp := fun _ => false, fi := fun _ => 0, la := fun _ => 0 },
    F := fun _ => 0, wg := fun _ => (0, 0), E := fun _ => 0, ag := fun _ => (0, 0), nm := fun _ => ⟨#[]⟩, ng := 0, m1 := w.heap.size, m2 := none, nn := 0, f1 := fun _ => none, f2 := fun _ => none, hu := none, nu := 0, hr := none, nr := 0, kc := 0 }

theorem Mp.alloc {W : World} {mb n : Nat} {f : List UInt8 → Option Nat} (h : Mp W mb n f) (o : Obj) : Mp (W.alloc o) mb n f := h.block (heap_alloc_old W o h.lt)

theorem ls_init (w : World) (n K : Nat) (hn : n ≤ 400) :
    ∃ w1 w2 w3 M, (Instr.makeSlice 76 (.int .i64 n) (.int .i64 n)).run Yba.prog ((w.alloc (.map #[] 0)).alloc (.cells (plCells w.heap.size K) 129)) = .ok (.slice (some ⟨w.heap.size + 2, 0, none⟩) n n) w1 ∧
      (Instr.makeSlice 77 (.int .i64 n) (.int .i64 n)).run Yba.prog w1 = .ok (.slice (some ⟨w.heap.size + 3, 0, none⟩) n n) w2 ∧
      (Instr.makeSlice 78 (.int .i64 n) (.int .i64 n)).run Yba.prog w2 = .ok (.slice (some ⟨w.heap.size + 4, 0, none⟩) n n) w3 ∧
      LS w n K (w.heap.size + 2) (w.heap.size + 3) (w.heap.size + 4) none none none none (g0 w) 0 w3 M := by
  obtain ⟨i81, h81, z81, s81, b81⟩ := inf_of inf81
  obtain ⟨i3, h3, z3, s3, b3⟩ := inf_of inf3
  obtain ⟨i4, h4, z4, s4, b4⟩ := inf_of inf4
  have r1 := run_make (P := Yba.prog) ((w.alloc (.map #[] 0)).alloc (.cells (plCells w.heap.size K) 129)) 76 81 i81 _ Yba.underlying76 h81 z81 .i64 .i64 n n (by omega) (by omega) (by rw [b81]; omega) (by omega)
  have sz1 : ((w.alloc (.map #[] 0)).alloc (.cells (plCells w.heap.size K) 129)).heap.size = w.heap.size + 2 := by simp
  rw [sz1] at r1
  simp only [Int.toNat_natCast, s81, Nat.mul_one] at r1
  have e0 : Agr w (fun _ _ => none) := fun _ _ _ h => by cases h
  have t0 : Stp w (fun _ _ => none) (w.alloc (.map #[] 0)) (fun _ _ => none) := Stp.obj e0 _
  have t1 := t0.new (plCells w.heap.size K) 129
  have t2 := t1.new (madeCells (Value.pointer none).cells n) 81
  have q1 := ((Mp.made w).alloc (.cells (plCells w.heap.size K) 129)).alloc (.cells (madeCells (Value.pointer none).cells n) 81)
  generalize hw1 : (((w.alloc (.map #[] 0)).alloc (.cells (plCells w.heap.size K) 129)).alloc (.cells (madeCells (Value.pointer none).cells n) 81)) = w1 at *
  have sz2 : w1.heap.size = w.heap.size + 3 := by rw [← hw1]; simp
  have r2 := run_make (P := Yba.prog) w1 77 3 i3 _ Yba.underlying77 h3 z3 .i64 .i64 n n (by omega) (by omega) (by rw [b3]; omega) (by omega)
  rw [sz2] at r2
  simp only [Int.toNat_natCast, s3, Nat.mul_one] at r2
  have t3 := t2.new (madeCells (Value.int .i64 0).cells n) 3
  rw [sz2] at t3
  have q2 := q1.alloc (.cells (madeCells (Value.int .i64 0).cells n) 3)
  generalize hw2 : w1.alloc (.cells (madeCells (Value.int .i64 0).cells n) 3) = w2 at *
  have sz3 : w2.heap.size = w.heap.size + 4 := by rw [← hw2]; simp [sz2]
  have r3 := run_make (P := Yba.prog) w2 78 4 i4 _ Yba.underlying78 h4 z4 .i64 .i64 n n (by omega) (by omega) (by rw [b4]; omega) (by omega)
  rw [sz3] at r3
  simp only [Int.toNat_natCast, s4, Nat.mul_one] at r3
  have t4 := t3.new (madeCells (Value.bool false).cells n) 4
  rw [sz3] at t4
  have szA : (w.alloc (.map #[] 0)).heap.size = w.heap.size + 1 := by simp
  rw [sz1, szA] at t4
  obtain ⟨M, hM⟩ : ∃ M, M = newB (newB (newB (newB (fun _ _ => none) (w.heap.size + 1) (plCells w.heap.size K).toList) (w.heap.size + 2) (madeCells (Value.pointer none).cells n).toList) (w.heap.size + 3) (madeCells (Value.int .i64 0).cells n).toList) (w.heap.size + 4) (madeCells (Value.bool false).cells n).toList := ⟨_, rfl⟩
  rw [← hM] at t4
  have mP : ∀ o, M (w.heap.size + 1) o = (plCells w.heap.size K).toList[o]? := fun o => by rw [hM, newB_other _ _ _ (by omega), newB_other _ _ _ (by omega), newB_other _ _ _ (by omega), newB_same]
  have m7 : ∀ j, j < n → M (w.heap.size + 2) j = some (.pointer none) := fun j hj => by rw [hM, newB_other _ _ _ (by omega), newB_other _ _ _ (by omega), newB_same]; exact made_get rfl hj
  have m8 : ∀ j, j < n → M (w.heap.size + 3) j = some (.int .i64 0) := fun j hj => by rw [hM, newB_other _ _ _ (by omega), newB_same]; exact made_get rfl hj
  have m9 : ∀ j, j < n → M (w.heap.size + 4) j = some (.bool false) := fun j hj => by rw [hM, newB_same]; exact made_get rfl hj
  refine ⟨w1, w2, _, M, r1, r2, r3, ?_⟩
  have q3 := q2.alloc (.cells (madeCells (Value.bool false).cells n) 4)
  generalize w2.alloc (.cells (madeCells (Value.bool false).cells n) 4) = w3 at *
  have no : ∀ {α : Prop} (j : Nat), j < 0 → α := fun j hj => absurd hj (Nat.not_lt_zero j)
  have kP : (g0 w).kd (g0 w).s.P = (0, 0) := by simp [g0]
  have sh : ShOk (g0 w).kd (g0 w).s 0 (g0 w).ng := ⟨kP, fun j hj => no j hj, fun j hj => no j hj, fun j hj => no j hj, fun j hj => no j hj, fun j hj => no j hj⟩
  have naN : ∀ b, ¬ arrB none b := fun b ⟨c, hc⟩ => by cases hc
  have rkR : RkZ w3 M (KM (MemR (g0 w).s (g0 w).wg 0)) (MemR (g0 w).s (g0 w).wg 0) (w.heap.size + 1) 7 none 0 97 :=
    ⟨mP 7, rfl, fun A k hA => absurd hA (naN A), fun gb go ⟨d, hd, _⟩ => no d hd, fun gb go ⟨d, hd, _⟩ => no d hd, fun ⟨gb, go, ⟨d, hd, _⟩, _⟩ => no d hd, naN _⟩
  have rkU : RkZ w3 M (KM (MemU (g0 w).s (g0 w).ag 0)) (MemU (g0 w).s (g0 w).ag 0) (w.heap.size + 1) 4 none 0 86 :=
    ⟨mP 4, rfl, fun A k hA => absurd hA (naN A), fun gb go ⟨d, hd, _⟩ => no d hd, fun gb go ⟨d, hd, _⟩ => no d hd, fun ⟨gb, go, ⟨d, hd, _⟩, _⟩ => no d hd, naN _⟩
  have wg0 : WG (g0 w).kd (g0 w).s (g0 w).F (g0 w).wg 0 0 M := ⟨fun j hj => no j hj, fun j hj => no j hj, fun j hj => no j hj, fun j hj => no j hj, fun j hj => no j hj, fun j hj => no j hj, fun j hj => no j hj, fun j hj => no j hj, fun j hj => no j hj, fun j hj => no j hj, fun j hj => no j hj⟩
  have ag0 : AG (g0 w).kd (g0 w).s (g0 w).E (g0 w).ag (g0 w).nm 0 0 M := ⟨fun j hj => no j hj, fun j hj => no j hj, fun j hj => no j hj, fun j hj => no j hj, fun j hj => no j hj, fun j hj => no j hj, fun j hj => no j hj, fun j hj => no j hj, fun j hj => no j hj, fun j hj => no j hj, fun j hj => no j hj, fun j hj => no j hj, fun j hj => no j hj⟩
  have fs : Fas (g0 w) 0 K w3 M := by
    refine ⟨t4.agr, sh, ⟨wg0, mP 6, fun _ => ⟨rfl, fun _ => rfl⟩, (fun mb e => by cases e), mP 8, rkR, fun b hb => absurd hb (naN b), fun j hj => no j hj⟩, ⟨ag0, mP 1, mP 2, mP 3, q3, mP 5, rkU, fun b hb => absurd hb (naN b), fun j hj => no j hj⟩, mP 0, (fun e => by cases e), fun j hj => no j hj, fun j hj => no j hj, fun l _ => ⟨rfl, rfl⟩, fun j hj => no j hj⟩
  refine ⟨fs, ⟨t4.os, t4.tape, t4.output, t4.size, fun k hk => t4.block k hk (fun _ => rfl)⟩, fun b o v hv => ?_, Nat.le_refl _, (fun mb e => by cases e), ⟨by simp [g0], by simp [g0], by simp [g0], fun b hb => absurd hb (naN b), fun b hb => absurd hb (naN b), fun b hb => absurd hb (naN b), fun b hb => absurd hb (naN b), fun j hj => ?_, fun j hj => ?_, fun j hj => ?_, rfl, rfl, rfl, rfl, fun b j hb => absurd hb (naN b), fun b j hb => absurd hb (naN b), fun b j hb => absurd hb (naN b), fun b j hb => absurd hb (naN b)⟩, rfl, rfl, Nat.le_refl _, Nat.le_refl _, fun j hj => no j hj, fun j hj => no j hj⟩
  · rcases t4.fresh b o (by rw [hv]; simp) with h' | h'
    · exact absurd rfl h'
    · exact h'
  · rw [m7 j hj]; simp
  · rw [m8 j hj]; simp
  · rw [m9 j hj]; simp
end Go.Proofs.Ybulkdcoi
