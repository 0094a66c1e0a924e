/-
  (*list.List).PushBack AND Remove, on the call's own memory.
-/
import Derived.Test.YbulkdcoiL1
namespace Go.Proofs.Ybulkdcoi
open Go.RowKit
set_option linter.unusedVariables false

theorem Stp.congr {W w' : World} {M M1 M2 : Cel} (h : Stp W M w' M1) (e : ∀ b o, M1 b o = M2 b o) : Stp W M w' M2 := by
  have : M1 = M2 := funext fun b => funext fun o => e b o
  rw [← this]
  exact h

/-- The memory behind PushBack: e the new element, 'ab, ao' the element (or the root) behind which it comes. -/
def pushed (M : Cel) (lb lo ab ao e : Nat) (v : Value) (n : Int) : Cel :=
  up (up (up (newB M e [ptr lb lo, ptr ab ao, ptr lb lo, v]) ab ao (ptr e 0)) lb (lo + 1) (ptr e 0)) lb (lo + 4) (.int .i64 (n + 1))

theorem pushed_eq (M : Cel) (lb lo ab ao e : Nat) (v p q r : Value) (n : Int) (h1 : e ≠ lb) (h2 : e ≠ ab) :
    ∀ b o, up (up (up (up (up (up (newB M e [p, q, r, v]) e 1 (ptr ab ao)) e 0 (ptr lb lo)) ab ao (ptr e 0)) lb (lo + 1) (ptr e 0)) e 2 (ptr lb lo)) lb (lo + 4) (.int .i64 (n + 1)) b o = pushed M lb lo ab ao e v n b o := by
  intro b o
  unfold pushed
  by_cases hb : b = e
  · subst hb
    rcases o with _ | _ | _ | o <;> simp [up, newB, h1, h2]
  · simp [up, newB, hb]

set_option maxRecDepth 100000 in
theorem value_far (lb lo ab : Nat) (n : Int) (T : TypeId) (x : Value) (W : World) (M : Cel) (hA : Agr W M) (hn : 0 ≤ n) (hn2 : n ≤ 100000) (hd : ab ≠ lb)
    (h0 : M ab 0 = some (ptr lb lo)) (h1 : M lb (lo + 1) = some (ptr ab 0)) (h4 : M lb (lo + 4) = some (.int .i64 n)) :
    Calls Yba.prog 30 #[ptr lb lo, .iface T x, ptr ab 0] W fun e w' => e = .returned (ptr W.heap.size 0) ∧ Stp W M w' (pushed M lb lo ab 0 W.heap.size (.iface T x) n) := by
  have la := hA.lt h0
  have ll := hA.lt h4
  have hS := (Stp.refl hA).new #[.pointer none, .pointer none, .pointer none, .iface T x] 90
  have g : ∀ {b o v}, M b o = some v → b < W.heap.size → newB M W.heap.size [.pointer none, .pointer none, .pointer none, .iface T x] b o = some v := fun {b o v} h hb => (newB_other M o _ (by omega)).trans h
  have c0 := hS.agr ab 0 _ (g h0 la)
  have c1 := hS.agr lb (lo + 1) _ (g h1 ll)
  have c4 := hS.agr lb (lo + 4) _ (g h4 ll)
  have d0 := hS.agr W.heap.size 0 _ (by rw [newB_same]; rfl)
  have d1 := hS.agr W.heap.size 1 _ (by rw [newB_same]; rfl)
  have d2 := hS.agr W.heap.size 2 _ (by rw [newB_same]; rfl)
  have hins := insert_far lb lo ab W.heap.size n _ _ _ (W.alloc (.cells #[.pointer none, .pointer none, .pointer none, .iface T x] 90)) hn hn2 (by omega) (by omega) hd c0.1 c1.1 c4.1 d0.1 d1.1 d2.1 c0.2 c1.2 c4.2 d0.2 d1.2 d2.2
  have hfin : Stp W M ((((((W.alloc (.cells #[.pointer none, .pointer none, .pointer none, .iface T x] 90)).setCell ⟨W.heap.size, 1, none⟩ (ptr ab 0)).setCell ⟨W.heap.size, 0, none⟩ (ptr lb lo)).setCell ⟨ab, 0, none⟩ (ptr W.heap.size 0)).setCell ⟨lb, lo + 1, none⟩ (ptr W.heap.size 0)).setCell ⟨W.heap.size, 2, none⟩ (ptr lb lo) |>.setCell ⟨lb, lo + 4, none⟩ (.int .i64 (n + 1))) (pushed M lb lo ab 0 W.heap.size (.iface T x) n) := by
    have s1 := hS.set (b := W.heap.size) (o := 1) (u := .pointer none) (by rw [newB_same]; rfl) (ptr ab 0)
    have s2 := s1.set (b := W.heap.size) (o := 0) (u := .pointer none) (by rw [up_other _ _ (Or.inr (by decide)), newB_same]; rfl) (ptr lb lo)
    have s3 := s2.set (b := ab) (o := 0) (u := ptr lb lo) (by rw [up_other _ _ (Or.inl (by omega)), up_other _ _ (Or.inl (by omega))]; exact g h0 la) (ptr W.heap.size 0)
    have s4 := s3.set (b := lb) (o := lo + 1) (u := ptr ab 0) (by rw [up_other _ _ (Or.inl (fun e => hd e.symm)), up_other _ _ (Or.inl (by omega)), up_other _ _ (Or.inl (by omega))]; exact g h1 ll) (ptr W.heap.size 0)
    have s5 := s4.set (b := W.heap.size) (o := 2) (u := .pointer none) (by rw [up_other _ _ (Or.inl (by omega)), up_other _ _ (Or.inl (by omega)), up_other _ _ (Or.inr (by decide)), up_other _ _ (Or.inr (by decide)), newB_same]; rfl) (ptr lb lo)
    have s6 := s5.set (b := lb) (o := lo + 4) (u := .int .i64 n) (by rw [up_other _ _ (Or.inl (by omega)), up_other _ _ (Or.inr (by omega)), up_other _ _ (Or.inl (fun e => hd e.symm)), up_other _ _ (Or.inl (by omega)), up_other _ _ (Or.inl (by omega))]; exact g h4 ll) (.int .i64 (n + 1))
    exact s6.congr (pushed_eq M lb lo ab 0 W.heap.size _ _ _ _ n (by omega) (by omega))
  have hins' : Calls Yba.prog 49 #[ptr lb lo, ptr W.heap.size 0, ptr ab 0] (W.alloc (.cells #[.pointer none, .pointer none, .pointer none, .iface T x] 90)) fun e w' => e = .returned (ptr W.heap.size 0) ∧ Stp W M w' (pushed M lb lo ab 0 W.heap.size (.iface T x) n) :=
    hins.mono fun e w' ⟨he, hw⟩ => ⟨he, by rw [hw]; exact hfin⟩
  clear hfin c0 c1 c4 d0 d1 d2 hS g hins
  go_enter Yba.func30, Yba.ntmps30
  go_wp2_with (go_at_call 49; refine hins'.mono ?_; rintro e w' ⟨rfl, hst⟩)
  go_ret
  exact ⟨rfl, hst⟩
end Go.Proofs.Ybulkdcoi
