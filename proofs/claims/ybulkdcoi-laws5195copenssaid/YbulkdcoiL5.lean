/-
  (*list.List).PushBack IN ONE CONTRACT: a zero list, an empty one that was used, one that holds elements.
-/
import Derived.Test.YbulkdcoiL4
namespace Go.Proofs.Ybulkdcoi
open Go.RowKit
set_option linter.unusedVariables false

/-- A list of n elements at lb, lo: fb its first element, ab its last (where there is one). -/
def Lst (M : Cel) (lb lo fb ab n : Nat) : Prop :=
  (n = 0 ∧ M lb lo = some (.pointer none) ∧ (∃ v, M lb (lo + 1) = some v) ∧ ∃ v, M lb (lo + 4) = some v) ∨
  (n = 0 ∧ M lb lo = some (ptr lb lo) ∧ M lb (lo + 1) = some (ptr lb lo) ∧ M lb (lo + 4) = some (.int .i64 0)) ∨
  (0 < n ∧ ab ≠ lb ∧ M lb lo = some (ptr fb 0) ∧ M lb (lo + 1) = some (ptr ab 0) ∧ M ab 0 = some (ptr lb lo) ∧ M lb (lo + 4) = some (.int .i64 n))

/-- What PushBack leaves. -/
structure Pushed (M M' : Cel) (lb lo fb ab n H : Nat) (v : Value) (sz : Nat) : Prop where
  e0 : M' H 0 = some (ptr lb lo)
  e1 : n = 0 → M' H 1 = some (ptr lb lo)
  e1x : ∃ v, M' H 1 = some v
  e2 : M' H 2 = some (ptr lb lo)
  e3 : M' H 3 = some v
  next : M' lb lo = some (ptr (if n = 0 then H else fb) 0)
  prev : M' lb (lo + 1) = some (ptr H 0)
  len : M' lb (lo + 4) = some (.int .i64 ((n : Int) + 1))
  frame : ∀ b o, b < sz → ¬ (b = lb ∧ (o = lo ∨ o = lo + 1 ∨ o = lo + 4)) → ¬ (b = ab ∧ o = 0) → M' b o = M b o

theorem pushed_far (M : Cel) (lb lo fb ab n H sz : Nat) (v : Value) (hn : 0 < n) (hd : ab ≠ lb) (h1 : H ≠ lb) (h2 : H ≠ ab) (hs : sz ≤ H) (h0 : M lb lo = some (ptr fb 0)) : Pushed M (pushed M lb lo ab 0 H v n) lb lo fb ab n H v sz := by
  have g : ∀ o, pushed M lb lo ab 0 H v n H o = [ptr lb lo, ptr ab 0, ptr lb lo, v][o]? := fun o => by
    unfold pushed
    rw [up_other _ _ (Or.inl h1), up_other _ _ (Or.inl h1), up_other _ _ (Or.inl h2), newB_same]
  refine ⟨g 0, fun e => by omega, ⟨_, g 1⟩, g 2, g 3, ?_, ?_, up_same _ _ _ _, fun b o hb n1 n2 => ?_⟩
  · unfold pushed
    rw [up_other _ _ (Or.inr (by omega)), up_other _ _ (Or.inr (by omega)), up_other _ _ (Or.inl (Ne.symm hd)), newB_other _ _ _ (Ne.symm h1), if_neg (by omega)]
    exact h0
  · unfold pushed
    rw [up_other _ _ (Or.inr (by omega)), up_same]
  · unfold pushed
    rw [up_other _ _ (by omega), up_other _ _ (by omega), up_other _ _ (by omega), newB_other _ _ _ (by omega)]

theorem pushed_root (M : Cel) (lb lo fb ab H sz : Nat) (v : Value) (h1 : H ≠ lb) (hs : sz ≤ H) : Pushed M (pushed M lb lo lb lo H v 0) lb lo fb ab 0 H v sz := by
  have g : ∀ o, pushed M lb lo lb lo H v 0 H o = [ptr lb lo, ptr lb lo, ptr lb lo, v][o]? := fun o => by
    unfold pushed
    rw [up_other _ _ (Or.inl h1), up_other _ _ (Or.inl h1), up_other _ _ (Or.inl h1), newB_same]
  refine ⟨g 0, fun _ => g 1, ⟨_, g 1⟩, g 2, g 3, ?_, ?_, up_same _ _ _ _, fun b o hb n1 n2 => ?_⟩
  · unfold pushed
    rw [up_other _ _ (Or.inr (by omega)), up_other _ _ (Or.inr (by omega)), up_same, if_pos rfl]
  · unfold pushed
    rw [up_other _ _ (Or.inr (by omega)), up_same]
  · unfold pushed
    rw [up_other _ _ (by omega), up_other _ _ (by omega), up_other _ _ (by omega), newB_other _ _ _ (by omega)]

theorem Pushed.readied {M M' : Cel} {lb lo fb ab n H sz : Nat} {v : Value} (h : Pushed (readied M lb lo) M' lb lo fb ab n H v sz) : Pushed M M' lb lo fb ab n H v sz :=
  ⟨h.e0, h.e1, h.e1x, h.e2, h.e3, h.next, h.prev, h.len, fun b o hb n1 n2 => (h.frame b o hb n1 n2).trans (by
    unfold Ybulkdcoi.readied
    rw [up_other _ _ (by omega), up_other _ _ (by omega), up_other _ _ (by omega)])⟩

theorem push_any (lb lo fb ab n : Nat) (T : TypeId) (x : Value) (W : World) (M : Cel) (hA : Agr W M) (hn : n ≤ 100000) (h : Lst M lb lo fb ab n) :
    Calls Yba.prog 21 #[ptr lb lo, .iface T x] W fun e w' => e = .returned (ptr W.heap.size 0) ∧ ∃ M', Stp W M w' M' ∧ Pushed M M' lb lo fb ab n W.heap.size (.iface T x) W.heap.size := by
  rcases h with ⟨rfl, h0, ⟨v1, h1⟩, ⟨v4, h4⟩⟩ | ⟨rfl, h0, h1, h4⟩ | ⟨hn0, hd, h0, h1, ha, h4⟩
  · have hl := hA.lt h0
    exact (push_zero lb lo v1 v4 T x W M hA h0 h1 h4).mono fun e w' ⟨he, hs⟩ => ⟨he, _, hs, (pushed_root _ lb lo fb ab _ _ _ (by omega) (Nat.le_refl _)).readied⟩
  · have hl := hA.lt h0
    exact (push_root lb lo 0 T x W M hA (by omega) (by omega) h0 h1 h4).mono fun e w' ⟨he, hs⟩ => ⟨he, _, hs, pushed_root _ lb lo fb ab _ _ _ (by omega) (Nat.le_refl _)⟩
  · have hl := hA.lt h0
    have hl2 := hA.lt ha
    exact (push_far lb lo ab fb n T x W M hA (by omega) (by omega) hd h0 ha h1 h4).mono fun e w' ⟨he, hs⟩ => ⟨he, _, hs, pushed_far _ lb lo fb ab n _ _ _ hn0 hd (by omega) (by omega) (Nat.le_refl _) h0⟩
end Go.Proofs.Ybulkdcoi
