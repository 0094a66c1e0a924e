/-
  (*list.List).PushBack, whole: behind an element; into an empty list that was used before; into a zero list.
-/
import Derived.Test.YbulkdcoiL2
namespace Go.Proofs.Ybulkdcoi
open Go.RowKit
set_option linter.unusedVariables false

set_option maxRecDepth 100000 in
theorem value_root (lb lo : Nat) (n : Int) (T : TypeId) (x : Value) (W : World) (M : Cel) (hA : Agr W M) (hn : 0 ≤ n) (hn2 : n ≤ 100000)
    (h0 : M lb lo = some (ptr lb lo)) (h1 : M lb (lo + 1) = some (ptr lb lo)) (h4 : M lb (lo + 4) = some (.int .i64 n)) :
    Calls Yba.prog 30 #[ptr lb lo, .iface T x, ptr lb lo] W fun e w' => e = .returned (ptr W.heap.size 0) ∧ Stp W M w' (pushed M lb lo lb lo W.heap.size (.iface T x) n) := by
  have ll := hA.lt h4
  have hS := (Stp.refl hA).new #[.pointer none, .pointer none, .pointer none, .iface T x] 90
  have g : ∀ {b o v}, M b o = some v → b < W.heap.size → newB M W.heap.size [.pointer none, .pointer none, .pointer none, .iface T x] b o = some v := fun {b o v} h hb => (newB_other M o _ (by omega)).trans h
  have c0 := hS.agr lb lo _ (g h0 ll)
  have c1 := hS.agr lb (lo + 1) _ (g h1 ll)
  have c4 := hS.agr lb (lo + 4) _ (g h4 ll)
  have d0 := hS.agr W.heap.size 0 _ (by rw [newB_same]; rfl)
  have d1 := hS.agr W.heap.size 1 _ (by rw [newB_same]; rfl)
  have d2 := hS.agr W.heap.size 2 _ (by rw [newB_same]; rfl)
  have hins := insert_root lb lo W.heap.size n _ _ _ (W.alloc (.cells #[.pointer none, .pointer none, .pointer none, .iface T x] 90)) hn hn2 (by omega) c0.1 c1.1 c4.1 d0.1 d1.1 d2.1 c0.2 c1.2 c4.2 d0.2 d1.2 d2.2
  have hfin : Stp W M ((((((W.alloc (.cells #[.pointer none, .pointer none, .pointer none, .iface T x] 90)).setCell ⟨W.heap.size, 1, none⟩ (ptr lb lo)).setCell ⟨W.heap.size, 0, none⟩ (ptr lb lo)).setCell ⟨lb, lo, none⟩ (ptr W.heap.size 0)).setCell ⟨lb, lo + 1, none⟩ (ptr W.heap.size 0)).setCell ⟨W.heap.size, 2, none⟩ (ptr lb lo) |>.setCell ⟨lb, lo + 4, none⟩ (.int .i64 (n + 1))) (pushed M lb lo lb lo W.heap.size (.iface T x) n) := by
    have s1 := hS.set (b := W.heap.size) (o := 1) (u := .pointer none) (by rw [newB_same]; rfl) (ptr lb lo)
    have s2 := s1.set (b := W.heap.size) (o := 0) (u := .pointer none) (by rw [up_other _ _ (Or.inr (by decide)), newB_same]; rfl) (ptr lb lo)
    have s3 := s2.set (b := lb) (o := lo) (u := ptr lb lo) (by rw [up_other _ _ (Or.inl (by omega)), up_other _ _ (Or.inl (by omega))]; exact g h0 ll) (ptr W.heap.size 0)
    have s4 := s3.set (b := lb) (o := lo + 1) (u := ptr lb lo) (by rw [up_other _ _ (Or.inr (by omega)), up_other _ _ (Or.inl (by omega)), up_other _ _ (Or.inl (by omega))]; exact g h1 ll) (ptr W.heap.size 0)
    have s5 := s4.set (b := W.heap.size) (o := 2) (u := .pointer none) (by rw [up_other _ _ (Or.inl (by omega)), up_other _ _ (Or.inl (by omega)), up_other _ _ (Or.inr (by decide)), up_other _ _ (Or.inr (by decide)), newB_same]; rfl) (ptr lb lo)
    have s6 := s5.set (b := lb) (o := lo + 4) (u := .int .i64 n) (by rw [up_other _ _ (Or.inl (by omega)), up_other _ _ (Or.inr (by omega)), up_other _ _ (Or.inr (by omega)), up_other _ _ (Or.inl (by omega)), up_other _ _ (Or.inl (by omega))]; exact g h4 ll) (.int .i64 (n + 1))
    exact s6.congr (pushed_eq M lb lo lb lo W.heap.size _ _ _ _ n (by omega) (by omega))
  have hins' : Calls Yba.prog 49 #[ptr lb lo, ptr W.heap.size 0, ptr lb lo] (W.alloc (.cells #[.pointer none, .pointer none, .pointer none, .iface T x] 90)) fun e w' => e = .returned (ptr W.heap.size 0) ∧ Stp W M w' (pushed M lb lo lb lo W.heap.size (.iface T x) n) :=
    hins.mono fun e w' ⟨he, hw⟩ => ⟨he, by rw [hw]; exact hfin⟩
  clear hfin c0 c1 c4 d0 d1 d2 hS g hins
  go_enter Yba.func30, Yba.ntmps30
  go_wp2_with (go_at_call 49; refine hins'.mono ?_; rintro e w' ⟨rfl, hst⟩)
  go_ret
  exact ⟨rfl, hst⟩

set_option maxRecDepth 100000 in
theorem push_far (lb lo ab fb : Nat) (n : Int) (T : TypeId) (x : Value) (W : World) (M : Cel) (hA : Agr W M) (hn : 0 ≤ n) (hn2 : n ≤ 100000) (hd : ab ≠ lb)
    (hf : M lb lo = some (ptr fb 0)) (h0 : M ab 0 = some (ptr lb lo)) (h1 : M lb (lo + 1) = some (ptr ab 0)) (h4 : M lb (lo + 4) = some (.int .i64 n)) :
    Calls Yba.prog 21 #[ptr lb lo, .iface T x] W fun e w' => e = .returned (ptr W.heap.size 0) ∧ Stp W M w' (pushed M lb lo ab 0 W.heap.size (.iface T x) n) := by
  have hl := lazy_done lb lo fb 0 W (hA _ _ _ hf).1
  have hv := value_far lb lo ab n T x W M hA hn hn2 hd h0 h1 h4
  have c1 := (hA _ _ _ h1).1
  clear hf h0 h1 h4 hA
  go_enter Yba.func21, Yba.ntmps21
  go_wp2_with (first | (go_at_call 29; refine hl.mono ?_; rintro e w' ⟨rfl, rfl⟩) | (go_at_call 30; refine hv.mono ?_; rintro e w' ⟨rfl, hst⟩))
  go_ret
  exact ⟨rfl, hst⟩

set_option maxRecDepth 100000 in
theorem push_root (lb lo : Nat) (n : Int) (T : TypeId) (x : Value) (W : World) (M : Cel) (hA : Agr W M) (hn : 0 ≤ n) (hn2 : n ≤ 100000)
    (h0 : M lb lo = some (ptr lb lo)) (h1 : M lb (lo + 1) = some (ptr lb lo)) (h4 : M lb (lo + 4) = some (.int .i64 n)) :
    Calls Yba.prog 21 #[ptr lb lo, .iface T x] W fun e w' => e = .returned (ptr W.heap.size 0) ∧ Stp W M w' (pushed M lb lo lb lo W.heap.size (.iface T x) n) := by
  have hl := lazy_done lb lo lb lo W (hA _ _ _ h0).1
  have hv := value_root lb lo n T x W M hA hn hn2 h0 h1 h4
  have c1 := (hA _ _ _ h1).1
  clear h0 h1 h4 hA
  go_enter Yba.func21, Yba.ntmps21
  go_wp2_with (first | (go_at_call 29; refine hl.mono ?_; rintro e w' ⟨rfl, rfl⟩) | (go_at_call 30; refine hv.mono ?_; rintro e w' ⟨rfl, hst⟩))
  go_ret
  exact ⟨rfl, hst⟩

/-- A zero list, made ready. -/
def readied (M : Cel) (lb lo : Nat) : Cel := up (up (up M lb lo (ptr lb lo)) lb (lo + 1) (ptr lb lo)) lb (lo + 4) (.int .i64 0)

set_option maxRecDepth 100000 in
theorem push_zero (lb lo : Nat) (v1 v4 : Value) (T : TypeId) (x : Value) (W : World) (M : Cel) (hA : Agr W M)
    (h0 : M lb lo = some (.pointer none)) (h1 : M lb (lo + 1) = some v1) (h4 : M lb (lo + 4) = some v4) :
    Calls Yba.prog 21 #[ptr lb lo, .iface T x] W fun e w' => e = .returned (ptr W.heap.size 0) ∧ Stp W M w' (pushed (readied M lb lo) lb lo lb lo W.heap.size (.iface T x) 0) := by
  have c0 := hA _ _ _ h0
  have c1 := hA _ _ _ h1
  have c4 := hA _ _ _ h4
  have s1 := (Stp.refl hA).set h0 (ptr lb lo)
  have s2 := s1.set (b := lb) (o := lo + 1) (u := v1) (by rw [up_other _ _ (Or.inr (by omega))]; exact h1) (ptr lb lo)
  have s3 : Stp W M _ (readied M lb lo) := s2.set (b := lb) (o := lo + 4) (u := v4) (by rw [up_other _ _ (Or.inr (by omega)), up_other _ _ (Or.inr (by omega))]; exact h4) (.int .i64 0)
  have hl : Calls Yba.prog 29 #[ptr lb lo] W fun e w' => e = .returned (.tuple #[]) ∧ Stp W M w' (readied M lb lo) ∧ w'.heap.size = W.heap.size :=
    (lazy_new lb lo v1 v4 W c0.1 c1.1 c4.1 c0.2 c1.2 c4.2).mono fun e w' ⟨he, hw⟩ => ⟨he, by rw [hw]; exact s3, by rw [hw]; simp⟩
  have r0 : readied M lb lo lb lo = some (ptr lb lo) := by simp [readied, up]
  have r1 : readied M lb lo lb (lo + 1) = some (ptr lb lo) := by simp [readied, up]
  have r4 : readied M lb lo lb (lo + 4) = some (.int .i64 0) := by simp [readied, up]
  have hv : ∀ w1, Stp W M w1 (readied M lb lo) → w1.heap.size = W.heap.size → w1.cell? ⟨lb, lo + 1, none⟩ = some (ptr lb lo) ∧ Calls Yba.prog 30 #[ptr lb lo, .iface T x, ptr lb lo] w1 fun e w' => e = .returned (ptr W.heap.size 0) ∧ Stp W M w' (pushed (readied M lb lo) lb lo lb lo W.heap.size (.iface T x) 0) := fun w1 h1' hs =>
    ⟨(h1'.agr _ _ _ r1).1, (value_root lb lo 0 T x w1 _ h1'.agr (by omega) (by omega) r0 r1 r4).mono fun e w' ⟨he, hw⟩ => by rw [hs] at he hw; exact ⟨he, h1'.trans hw⟩⟩
  clear s1 s2 s3 c0 c1 c4 h0 h1 h4 hA r0 r1 r4
  go_enter Yba.func21, Yba.ntmps21
  go_wp2_with (first | (go_at_call 29; refine hl.mono ?_; rintro e w1 ⟨rfl, hst1, hsz⟩; obtain ⟨hc, hv2⟩ := hv w1 hst1 hsz) | (go_at_call 30; refine hv2.mono ?_; rintro e w' ⟨rfl, hst⟩))
  go_ret
  exact ⟨rfl, hst⟩
end Go.Proofs.Ybulkdcoi
