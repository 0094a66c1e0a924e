/-
  slices.DeleteFunc AT []int32 WITH compactRequested's CLOSURE: the records that do not await p are struck.
-/
import Derived.Test.YbulkdcoiShelf
import Derived.Test.YbulkdcoiPlain
import Derived.Test.YbulkdcoiProg
import Derived.WalkKit
namespace Go.Proofs.Ybulkdcoi
open Go.RowKit Go.Sort Go.Shelf Go.Lib
set_option linter.unusedVariables false

set_option maxRecDepth 100000 in
/-- THE CLOSURE: 'n.msgs[i].source != p'. -/
theorem closure (p s : Int) (nB pB NB MB N k : Nat) (W : World) (hN : k < N) (hN2 : N ≤ 1024) (h0 : W.cell? ⟨nB, 0, none⟩ = some (.pointer (some ⟨NB, 0, none⟩))) (h1 : W.cell? ⟨pB, 0, none⟩ = some (.int .i32 p))
    (h2 : W.cell? ⟨NB, 17, none⟩ = some (.slice (some ⟨MB, 0, none⟩) N N)) (h3 : W.cell? ⟨MB, k * 46 + 34, none⟩ = some (.int .i32 s)) :
    Calls Yba.prog 17 #[.int .i32 k, .pointer (some ⟨nB, 0, none⟩), .pointer (some ⟨pB, 0, none⟩)] W fun e w' => e = .returned (.bool (!decide (s = p))) ∧ ∃ q, w' = W.drewN q := by
  go_enter Yba.func17, Yba.ntmps17
  go_wp2_with fail
  go_region
  all_goals (try go_wp2)
  go_ret
  refine ⟨?_, 1, rfl⟩
  by_cases h : s = p <;> simp [h, bne]

theorem putRow_map {α : Type} [Inhabited α] (f : α → Int) (w : World) (blk off : Nat) (d : Array α) : putRow (fun x => Value.int .i32 (f x)) w blk off d = putRow (Value.int .i32) w blk off (d.map f) := by
  unfold putRow
  refine congrArg (mapBlock w blk) ?_
  funext c
  unfold putCells
  refine congrArg (fun g => c.mapIdx g) ?_
  funext k x
  rw [Array.size_map]
  by_cases h : off ≤ k ∧ k < off + d.size
  · rw [if_pos h, if_pos h, getElem!_pos d _ (by omega), getElem!_pos (d.map f) _ (by rw [Array.size_map]; omega), Array.getElem_map]
  · rw [if_neg h, if_neg h]

theorem holds_map {α : Type} [Inhabited α] (f : α → Int) (w : World) (blk off : Nat) (d : Array α) (h : Holds (Value.int .i32) w blk off (d.map f)) : Holds (fun x => Value.int .i32 (f x)) w blk off d := fun j hj => by
  have := h j (by rw [Array.size_map]; exact hj)
  rw [getElem!_pos (d.map f) _ (by rw [Array.size_map]; exact hj), Array.getElem_map] at this
  rw [getElem!_pos d _ hj]
  exact this

theorem as_fin (N : Nat) : ∀ (vs : List Nat), (∀ v ∈ vs, v < N) → ∃ l : List (Fin N), l.map (fun x => x.val) = vs
  | [], _ => ⟨[], rfl⟩
  | v :: r, h => by
    obtain ⟨l, hl⟩ := as_fin N r fun u hu => h u (List.mem_cons_of_mem _ hu)
    exact ⟨⟨v, h v (by simp)⟩ :: l, by simp [hl]⟩

theorem kept_fin {N : Nat} (S : Nat → Int) (p : Int) (l : List (Fin N)) : (l.filter fun x => !(!decide (S x.val = p))).map (fun x => ((x.val : Nat) : Int)) = kept S p (l.map fun x => x.val) := by
  unfold kept
  rw [List.filter_map, List.map_map]
  simp only [Bool.not_not]
  rfl

set_option maxRecDepth 100000 in
theorem del_empty (a : Option Addr) (c : Nat) (fv : Value) (w : World) : Calls Yba.prog 16 #[.slice a 0 c, fv] w fun e w' => e = .returned (.slice a 0 c) ∧ w' = w := by
  have hI : Calls Yba.prog 25 #[.slice a 0 c, fv] w fun e w' => e = .returned (.int .i64 (-1)) ∧ w' = w := AnyE.slices_IndexFunc_empty Yba.idx a c fv w
  go_enter Yba.func16, Yba.ntmps16
  go_wp2_with (go_at_call 25; refine hI.mono ?_; rintro e w' ⟨rfl, rfl⟩)
  go_ret
  exact ⟨rfl, rfl⟩

theorem del_any (S : Nat → Int) (p : Int) (nB pB NB MB LB N c : Nat) (vs : List Nat) (w : World) (hv : ∀ v ∈ vs, v < N) (hN2 : N ≤ 1024) (h0 : w.cell? ⟨nB, 0, none⟩ = some (.pointer (some ⟨NB, 0, none⟩))) (h1 : w.cell? ⟨pB, 0, none⟩ = some (.int .i32 p))
    (h2 : w.cell? ⟨NB, 17, none⟩ = some (.slice (some ⟨MB, 0, none⟩) N N)) (h3 : ∀ i, i < N → w.cell? ⟨MB, i * 46 + 34, none⟩ = some (.int .i32 (S i))) (hH : Holds (Value.int .i32) w LB 0 (vs.map fun (v : Nat) => (v : Int)).toArray)
    (n0 : nB ≠ LB) (n1 : pB ≠ LB) (n2 : NB ≠ LB) (n3 : MB ≠ LB) (hcap : vs.length ≤ c) (hsz : vs.length ≤ 2000) :
    Calls Yba.prog 16 #[.slice (some ⟨LB, 0, none⟩) vs.length c, .func (.func 17) #[] #[.pointer (some ⟨nB, 0, none⟩), .pointer (some ⟨pB, 0, none⟩)]] w fun e w' =>
      e = .returned (.slice (some ⟨LB, 0, none⟩) (kept S p vs).length c) ∧ ∃ q, w' = putRow (Value.int .i32) (Sort.ahead w q) LB 0 (kept S p vs ++ List.replicate (vs.length - (kept S p vs).length) 0).toArray := by
  match N, hv, hN2, h2, h3 with
  | 0, hv, _, _, _ =>
    have : vs = [] := by
      cases vs with
      | nil => rfl
      | cons v r => exact absurd (hv v (by simp)) (Nat.not_lt_zero _)
    subst this
    refine (del_empty _ c _ w).mono ?_
    rintro e w' ⟨rfl, rfl⟩
    exact ⟨rfl, 0, (putRow_self _ _ _ _ _ (by intro j hj; exact absurd hj (Nat.not_lt_zero _))).symm⟩
  | m + 1, hv, hN2, h2, h3 =>
    obtain ⟨l, rfl⟩ := as_fin (m + 1) vs hv
    have e0 : (l.map fun x => x.val).length = l.toArray.size := by simp
    have hH' : Holds (fun x : Fin (m + 1) => Value.int .i32 ((x.val : Nat) : Int)) w LB 0 l.toArray := holds_map (fun x : Fin (m + 1) => ((x.val : Nat) : Int)) w LB 0 l.toArray (by simpa [List.map_map, Function.comp_def] using hH)
    have lt0 := World.block_lt_of_cell? _ _ h0
    have lt1 := World.block_lt_of_cell? _ _ h1
    have lt2 := World.block_lt_of_cell? _ _ h2
    have gives : ∀ (W : World) (x : Fin (m + 1)), W.cell? ⟨nB, 0, none⟩ = w.cell? ⟨nB, 0, none⟩ → W.cell? ⟨pB, 0, none⟩ = w.cell? ⟨pB, 0, none⟩ → W.cell? ⟨NB, 17, none⟩ = w.cell? ⟨NB, 17, none⟩ → W.cell? ⟨MB, x.val * 46 + 34, none⟩ = w.cell? ⟨MB, x.val * 46 + 34, none⟩ →
        FnGives Yba.prog 17 #[.pointer (some ⟨nB, 0, none⟩), .pointer (some ⟨pB, 0, none⟩)] #[Value.int .i32 ((x.val : Nat) : Int)] (.bool (!decide (S x.val = p))) W := fun W x g0 g1 g2 g3 =>
      closure p (S x.val) nB pB NB MB (m + 1) x.val W x.isLt hN2 (g0.trans h0) (g1.trans h1) (g2.trans h2) (g3.trans (h3 _ x.isLt))
    have hcon := AnyE.slices_DeleteFunc Yba.del (fun x : Fin (m + 1) => Value.int .i32 ((x.val : Nat) : Int)) (fun _ => rfl) (fun x => !decide (S x.val = p)) 17 #[.pointer (some ⟨nB, 0, none⟩), .pointer (some ⟨pB, 0, none⟩)]
      (enters_of Yba.func17 (by kernel_rfl) rfl) 0 Yba.zeroValue21 LB 0 c l.toArray w
      (fun W x hb => gives W x (hb.cell (p := ⟨nB, 0, none⟩) lt0) (hb.cell (p := ⟨pB, 0, none⟩) lt1) (hb.cell (p := ⟨NB, 17, none⟩) lt2) (hb.cell (p := ⟨MB, x.val * 46 + 34, none⟩) (World.block_lt_of_cell? _ _ (h3 _ x.isLt))))
      (fun n os dk x _ => by
        have far : ∀ (b o : Nat), b < w.heap.size → b ≠ LB → (sortWorld (fun x : Fin (m + 1) => Value.int .i32 ((x.val : Nat) : Int)) w LB 0 n dk os).cell? ⟨b, o, none⟩ = w.cell? ⟨b, o, none⟩ := fun b o hb hne => by
          unfold sortWorld
          rw [cell?_grow _ _ _ (by show b < (putRow _ _ _ _ _).heap.size; rw [size_putRow]; exact hb), cell?_putRow_other _ _ LB 0 _ _ (Or.inl hne)]
          rfl
        exact gives _ x (far _ _ lt0 n0) (far _ _ lt1 n1) (far _ _ lt2 n2) (far _ _ (World.block_lt_of_cell? _ _ (h3 _ x.isLt)) n3))
      hH' (by rw [← e0]; omega) (by rw [← e0]; exact hcap)
    change Calls Yba.prog 16 _ _ _ at hcon
    rw [← e0] at hcon
    have hk := kept_fin S p l
    have hl : ((l.toArray.toList.filter fun x => !(!decide (S x.val = p))).length) = (kept S p (l.map fun x => x.val)).length := by rw [← hk, List.length_map]
    refine hcon.mono ?_
    rintro e w' ⟨rfl, q, rfl⟩
    refine ⟨by rw [hl], q, ?_⟩
    rw [putRow_map (fun x : Fin (m + 1) => ((x.val : Nat) : Int)), hl]
    congr 1
    rw [← hk]
    simp
end Go.Proofs.Ybulkdcoi
