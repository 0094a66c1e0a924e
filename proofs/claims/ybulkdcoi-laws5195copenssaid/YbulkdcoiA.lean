/-
  append OF ONE ELEMENT, ON THE PURE MEMORY: the row's cells are in it, spare room and all.
-/
import Derived.Test.YbulkdcoiR
import Derived.Deep.AppendLies
namespace Go.Proofs.Ybulkdcoi
open Go.RowKit
set_option linter.unusedVariables false

/-- A slice's value: nil, or the first n of a row of its own. -/
def hdv : Option (Nat × Nat) → Nat → Value
  | none, _ => .slice none 0 0
  | some (A, cap), n => .slice (some ⟨A, 0, none⟩) n cap
/-- Block b is the slice's own. -/
def arrB (hd : Option (Nat × Nat)) (b : Nat) : Prop := ∃ cap, hd = some (b, cap)
def Rw (W : World) (M : Cel) (e : TypeId) (hd : Option (Nat × Nat)) (n : Nat) : Prop :=
  match hd with
  | none => n = 0
  | some (A, cap) => n ≤ cap ∧ 0 < cap ∧ Shp W A cap e ∧ ∀ k, k < cap → ∃ v, M A k = some v

theorem Shp.cell {W : World} {M : Cel} {A n : Nat} {e : TypeId} {cs : Array Value} (hA : Agr W M) (hc : W.heap[A]? = some (.cells cs e (0, 0))) {k : Nat} {v : Value} (hm : M A k = some v) : cs[k]? = some v := by
  have h := (hA _ _ _ hm).1
  rw [cell_of_row W A k cs e (0, 0) hc] at h
  exact h

theorem app_run (e t ty : TypeId) (i : TypeInfo) (z : Value) (ht : Yba.prog.underlying t = some (.slice e)) (hi : Yba.prog.info? e = some i) (hz : i.zero = some z) (hsz : i.size = 1) (hby : i.bytes ≤ 64) (hzc : z.cells.size = 1)
    (W : World) (M : Cel) (hA : Agr W M) (hd : Option (Nat × Nat)) (n : Nat) (h : Rw W M e hd n) (hn : n ≤ 100000) (XB : Nat) (x : Value) (hx : W.cell? ⟨XB, 0, none⟩ = some x) (h1 : x.oneCell' = true) :
    ∃ A' cap' w' M', (Builtin.append_ #[t, t] ty #[hdv hd n, .slice (some ⟨XB, 0, none⟩) 1 1]).run Yba.prog W = .ok (.slice (some ⟨A', 0, none⟩) (n + 1) cap') w' ∧ Stp W M w' M' ∧ Rw w' M' e (some (A', cap')) (n + 1) ∧
      (hd = some (A', cap') ∨ A' = W.heap.size) ∧ (∀ b o, b < W.heap.size → ¬ arrB hd b → M' b o = M b o) ∧ M' A' n = some x ∧ (∀ A, arrB hd A → ∀ k, k < n → M' A' k = M A k) := by
  have hl : [x].length = 1 * i.size := by rw [hsz]; rfl
  have hnews : ∀ j v, [x][j]? = some v → W.cell? ((⟨XB, 0, none⟩ : Addr).add j) = some v := by
    intro j v hv
    rcases j with _ | j
    · simp at hv
      subst hv
      simpa [Addr.add_lit] using hx
    · simp at hv
  have hb : ∀ m, m ≤ 100001 → m * i.bytes ≤ 140737488355328 := by
    intro m hm
    have : m * i.bytes ≤ 100001 * 64 := Nat.mul_le_mul hm hby
    omega
  -- what a new row brings
  have grown : ∀ (cs : List Value) (old : Nat), cs.length = n → ∀ w', w' = W.drew.alloc (.cells (cs.toArray ++ [x].toArray ++ Builtin.zeroCells z.cells (grownCap W (n + 1) old e - (n + 1))) e) →
      ∃ M', Stp W M w' M' ∧ Rw w' M' e (some (W.heap.size, grownCap W (n + 1) old e)) (n + 1) ∧ (∀ b o, b < W.heap.size → M' b o = M b o) ∧ M' W.heap.size n = some x ∧ (∀ k, k < n → M' W.heap.size k = cs[k]?) := by
    intro cs old hcs w' hw
    subst hw
    have hge := grownCap_ge W (n + 1) old e
    have hsz' : (cs.toArray ++ [x].toArray ++ Builtin.zeroCells z.cells (grownCap W (n + 1) old e - (n + 1))).size = grownCap W (n + 1) old e := by
      simp only [Array.size_append, List.size_toArray, size_zeroCells, hzc, hcs, List.length_singleton]
      omega
    refine ⟨newB M W.heap.size (cs.toArray ++ [x].toArray ++ Builtin.zeroCells z.cells (grownCap W (n + 1) old e - (n + 1))).toList, (Stp.refl hA).drew.new _ e, ⟨hge, by omega, ⟨_, heap_alloc_new W.drew _, hsz'⟩, fun k hk => ?_⟩, fun b o hb => newB_other M o _ (by omega), ?_, fun k hk => ?_⟩
    · rw [newB_same, Array.getElem?_toList, Array.getElem?_eq_getElem (by rw [hsz']; exact hk)]
      exact ⟨_, rfl⟩
    · rw [newB_same]
      simp only [Array.toList_append, List.append_assoc]
      rw [List.getElem?_append_right (by omega)]
      simp [hcs]
    · rw [newB_same]
      simp only [Array.toList_append, List.append_assoc]
      rw [List.getElem?_append_left (by omega)]
  rcases hd with _ | ⟨A, cap⟩
  · have hn0 : n = 0 := h
    subst hn0
    have hr := run_append_nil (P := Yba.prog) W t ty e i z ht hi hz ⟨XB, 0, none⟩ 1 1 [x] hl hnews (by omega) (by omega) (by have := hb 1 (by omega); omega)
    obtain ⟨M', g1, g2, g3, g4, g5⟩ := grown [] 0 rfl _ rfl
    refine ⟨W.heap.size, _, _, M', ?_, g1, g2, Or.inr rfl, fun b o hb _ => g3 b o hb, g4, fun A hA' k hk => by omega⟩
    simpa [hdv] using hr
  · obtain ⟨hle, hpos, ⟨cs, hc, hcn⟩, hrow⟩ := h
    by_cases hroom : n + 1 ≤ cap
    · have hr := run_append_room (P := Yba.prog) W t ty e i ht hi A n cap cs hc ⟨XB, 0, none⟩ 1 1 [x] hl hnews (by intro u hu; simp at hu; subst hu; exact h1) hroom (by rw [hsz]; simp; omega)
      have heq : (cs.toList.take (n * i.size) ++ [x] ++ cs.toList.drop (n * i.size + [x].length)).toArray = cs.setIfInBounds n x := by
        apply Array.ext'
        rw [hsz, Array.toList_setIfInBounds, List.set_eq_take_append_cons_drop, if_pos (by simp; omega)]
        simp
      rw [heq, ← setCell_eq_setRow W A n cs e (0, 0) x hc] at hr
      obtain ⟨v0, hv0⟩ := hrow n (by omega)
      refine ⟨A, cap, _, up M A n x, hr, (Stp.refl hA).set hv0 x, ⟨hroom, hpos, Shp.set ⟨cs, hc, hcn⟩ A n x, fun k hk => ?_⟩, Or.inl rfl, fun b o hb hne => up_other M x (Or.inl fun e' => hne ⟨cap, by rw [e']⟩), up_same M A n x, fun B hB k hk => ?_⟩
      · by_cases e' : k = n
        · subst e'
          exact ⟨x, up_same M A k x⟩
        · rw [up_other M x (Or.inr e')]
          exact hrow k hk
      · obtain ⟨c, hc'⟩ := hB
        cases hc'
        exact up_other M x (Or.inr (by omega))
    · have hcap : cap = n := by omega
      subst hcap
      have holds : ∀ j u, cs.toList[j]? = some u → W.cell? ((⟨A, 0, none⟩ : Addr).add j) = some u := World.news_of_block hc
      have hr := run_append_grow (P := Yba.prog) W t ty e i z ht hi hz ⟨A, 0, none⟩ cap cap cs.toList (by rw [hsz]; simp [hcn]) holds ⟨XB, 0, none⟩ 1 1 [x] hl hnews (by omega) (by omega) (growslice_fits (by omega) (hb (cap + 1) (by omega)))
      obtain ⟨M', g1, g2, g3, g4, g5⟩ := grown cs.toList cap (by simp [hcn]) _ rfl
      refine ⟨W.heap.size, _, _, M', hr, g1, g2, Or.inr rfl, fun b o hb _ => g3 b o hb, g4, fun B hB k hk => ?_⟩
      obtain ⟨c, hc'⟩ := hB
      cases hc'
      rw [g5 k hk]
      obtain ⟨v, hv⟩ := hrow k hk
      rw [hv]
      simpa using Shp.cell (n := 0) hA hc hv

/-- At the list of a plain region's operations: what the append's run is, is known. -/
theorem wpList_app {P : Program} {w : World} {ops : Array Oper} {rest : List Oper} {o : Oper} {a : Act} {Q : Exit → Act → World → Prop} (hgd : o.guard = none) (s x : Operand) (t : TypeId)
    (ho : o.op = .call { callee := .builtin .append, args := #[s, x], argTypes := #[t, t] }) (v u : Value) (hs : a.eval s = v) (hx : a.eval x = u) (v' : Value) (w' : World)
    (hr : (Builtin.append_ #[t, t] o.type #[v, u]).run P w = .ok v' w') (h : wpList P ops Q rest (a.put o.dst v') w') : wpList P ops Q (o :: rest) a w :=
  wpList_plain hgd fun _ hK => by
    unfold Oper.wp execOp
    simp only [ho, resolve, invoke, builtin, Sem.run_bind, Sem.run_pure, Result.andThen_ok, List.map_toArray, List.map_cons, List.map_nil, hs, hx, hr]
    exact hK _ _ h
end Go.Proofs.Ybulkdcoi
