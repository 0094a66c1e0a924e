/-
  A RANKING, NIL OR NOT, AND ITS STEPS, IN THE PURE MEMORY.
-/
import Derived.Test.YbulkdcoiA
namespace Go.Proofs.Ybulkdcoi
open Go.RowKit
set_option linter.unusedVariables false

/-- What a ranking's steps may touch: ranks (K), its own row. -/
def RZ (K : Nat → Nat → Prop) (hd : Option (Nat × Nat)) (b o : Nat) : Prop := K b o ∨ arrB hd b

structure RkZ (W : World) (M : Cel) (K : Nat → Nat → Prop) (Mem : Nat → Nat → Prop) (RB ro : Nat) (hd : Option (Nat × Nat)) (n : Nat) (e : TypeId) : Prop where
  hdr : M RB ro = some (hdv hd n)
  rows : Rw W M e hd n
  ent : ∀ A k, arrB hd A → k < n → ∃ gb go, Mem gb go ∧ M A k = some (ptr gb go) ∧ M gb (go + 7) = some (.int .i64 ((k : Int) + 1))
  mem : ∀ gb go, Mem gb go → ∃ A k, arrB hd A ∧ k < n ∧ M A k = some (ptr gb go)
  far : ∀ gb go, Mem gb go → ¬ arrB hd gb ∧ gb ≠ RB ∧ K gb (go + 7)
  hdrK : ¬ K RB ro
  RA : ¬ arrB hd RB

theorem arrB_some {A cap B : Nat} : arrB (some (A, cap)) B ↔ B = A := by
  constructor
  · rintro ⟨c, hc⟩
    cases hc
    rfl
  · rintro rfl
    exact ⟨cap, rfl⟩

theorem RkZ.rk {W : World} {M : Cel} {K : Nat → Nat → Prop} {Mem : Nat → Nat → Prop} {RB ro A cap n : Nat} {e : TypeId} (h : RkZ W M K Mem RB ro (some (A, cap)) n e) : Rk M (RZ K (some (A, cap))) Mem RB ro A cap n :=
  ⟨h.hdr, h.rows.1, h.rows.2.2.2, fun k hk => h.ent A k ⟨cap, rfl⟩ hk, fun gb go hm => by
    obtain ⟨B, k, hB, hk, he⟩ := h.mem gb go hm
    obtain rfl := arrB_some.1 hB
    exact ⟨k, hk, he⟩, fun gb go hm => by
    obtain ⟨h1, h2, h3⟩ := h.far gb go hm
    exact ⟨fun e => h1 ⟨cap, by rw [e]⟩, h2, Or.inl h3⟩, fun k => Or.inr ⟨cap, rfl⟩, fun hr => by
    rcases hr with hr | hr
    · exact h.hdrK hr
    · exact h.RA hr, fun e => h.RA ⟨cap, by rw [e]⟩⟩

theorem Rk.z {M' : Cel} {K : Nat → Nat → Prop} {Mem : Nat → Nat → Prop} {RB ro A cap n : Nat} {e : TypeId} {w' : World} (h : Rk M' (RZ K (some (A, cap))) Mem RB ro A cap n) (hs : Shp w' A cap e) (hp : 0 < cap) : RkZ w' M' K Mem RB ro (some (A, cap)) n e :=
  ⟨h.hdr, ⟨h.le, hp, hs, h.row⟩, fun B k hB hk => by
    obtain rfl := arrB_some.1 hB
    exact h.ent k hk, fun gb go hm => by
    obtain ⟨k, hk, he⟩ := h.mem gb go hm
    exact ⟨A, k, ⟨cap, rfl⟩, hk, he⟩, fun gb go hm => by
    obtain ⟨h1, h2, h3⟩ := h.far gb go hm
    have na : ¬ arrB (some (A, cap)) gb := fun e => h1 (arrB_some.1 e)
    rcases h3 with h3 | h3
    · exact ⟨na, h2, h3⟩
    · exact absurd h3 na, fun hk => h.hdrR (Or.inl hk), fun ha => h.hdrR (Or.inr ha)⟩

/-- What a step that may turn the header leaves as it was. -/
def Fz (W : World) (M M' : Cel) (K : Nat → Nat → Prop) (hd : Option (Nat × Nat)) (RB ro : Nat) : Prop := ∀ b o, b < W.heap.size → ¬ K b o → ¬ arrB hd b → ¬ (b = RB ∧ o = ro) → M' b o = M b o
/-- The row is the same, or a new one. -/
def Gr (W : World) (hd hd' : Option (Nat × Nat)) : Prop := hd' = hd ∨ ∃ A cap, hd' = some (A, cap) ∧ W.heap.size ≤ A

theorem Gr.not {W : World} {hd hd' : Option (Nat × Nat)} (h : Gr W hd hd') {b : Nat} (hb : b < W.heap.size) (hn : ¬ arrB hd b) : ¬ arrB hd' b := by
  rcases h with h | ⟨A, cap, h, hA⟩
  · rw [h]
    exact hn
  · rw [h]
    intro hh
    have := arrB_some.1 hh
    omega

theorem fx.fz {W : World} {M M' : Cel} {K : Nat → Nat → Prop} {hd hd' : Option (Nat × Nat)} {RB ro n : Nat} {b o : Nat} {v : Value} (h : fx M (RZ K hd) b o v) (hA : Agr W M) (hh : M RB ro = some (hdv hd n)) (hv : v ≠ hdv hd n) (hf : Fz W M M' K hd RB ro) (hg : Gr W hd hd') : fx M' (RZ K hd') b o v := by
  have hb := hA.lt h.1
  have hk : ¬ K b o := fun e => h.2 (Or.inl e)
  have ha : ¬ arrB hd b := fun e => h.2 (Or.inr e)
  refine ⟨(hf b o hb hk ha ?_).trans h.1, ?_⟩
  · rintro ⟨rfl, rfl⟩
    rw [h.1] at hh
    cases hh
    exact hv rfl
  · rintro (h' | h')
    · exact hk h'
    · exact hg.not hb ha h'

theorem hdv_int {hd : Option (Nat × Nat)} {n : Nat} {k : IntKind} {x : Int} : (Value.int k x) ≠ hdv hd n := by
  rcases hd with _ | ⟨A, c⟩ <;> simp [hdv]
theorem hdv_ptr {hd : Option (Nat × Nat)} {n : Nat} {a : Option Addr} : (Value.pointer a) ≠ hdv hd n := by
  rcases hd with _ | ⟨A, c⟩ <;> simp [hdv]
theorem hdv_iface {hd : Option (Nat × Nat)} {n : Nat} {t : TypeId} {v : Value} : (Value.iface t v) ≠ hdv hd n := by
  rcases hd with _ | ⟨A, c⟩ <;> simp [hdv]

theorem WayOkM.fz {W : World} {M M' : Cel} {K : Nat → Nat → Prop} {hd hd' : Option (Nat × Nat)} {RB ro n gb go : Nat} (h : WayOkM (RZ K hd) M gb go) (hA : Agr W M) (hh : M RB ro = some (hdv hd n)) (hf : Fz W M M' K hd RB ro) (hg : Gr W hd hd') : WayOkM (RZ K hd') M' gb go := by
  obtain ⟨s, m, o, eb, cb, co, hn, h1, h2, h3, h4, h5⟩ := h
  exact ⟨s, m, o, eb, cb, co, hn, h1.fz hA hh hdv_int hf hg, h2.fz hA hh hdv_ptr hf hg, h3.fz hA hh hdv_int hf hg, h4.fz hA hh hdv_iface hf hg, h5.fz hA hh hdv_int hf hg⟩
theorem AgeOkM.fz {W : World} {M M' : Cel} {K : Nat → Nat → Prop} {hd hd' : Option (Nat × Nat)} {RB ro n gb go : Nat} (h : AgeOkM (RZ K hd) M gb go) (hA : Agr W M) (hh : M RB ro = some (hdv hd n)) (hf : Fz W M M' K hd RB ro) (hg : Gr W hd hd') : AgeOkM (RZ K hd') M' gb go := by
  obtain ⟨m, o, eb, cb, co, hn, h2, h3, h4, h5⟩ := h
  exact ⟨m, o, eb, cb, co, hn, h2.fz hA hh hdv_ptr hf hg, h3.fz hA hh hdv_int hf hg, h4.fz hA hh hdv_iface hf hg, h5.fz hA hh hdv_int hf hg⟩

/-- A new block that the memory does not speak of. -/
theorem Stp.away {W : World} {M : Cel} (hA : Agr W M) (cs : Array Value) (t : TypeId) : Stp W M (W.alloc (.cells cs t)) M := by
  have h := (Stp.refl hA).new cs t
  refine ⟨fun b o v hv => ?_, h.os, h.tape, h.output, h.size, h.block, fun b o hb => Or.inl hb, h.shape⟩
  have hlt := hA.lt hv
  exact h.agr b o v ((newB_other M o _ (by omega)).trans hv)

def Mem1 (Mem : Nat → Nat → Prop) (gb go : Nat) : Nat → Nat → Prop := fun xb xo => Mem xb xo ∨ (xb = gb ∧ xo = go)

/-- The group is laid behind the row. -/
theorem push_z {W : World} {M : Cel} {K : Nat → Nat → Prop} {Mem : Nat → Nat → Prop} {RB ro : Nat} {hd : Option (Nat × Nat)} {n : Nat} {e t ty : TypeId} {i : TypeInfo} {z : Value} (ht : Yba.prog.underlying t = some (.slice e)) (hi : Yba.prog.info? e = some i) (hz : i.zero = some z) (hsz : i.size = 1) (hby : i.bytes ≤ 64) (hzc : z.cells.size = 1)
    (hA : Agr W M) (h : RkZ W M K Mem RB ro hd n e) (hn : n ≤ 100000) {gb go : Nat} {v0 : Value} (g7 : M gb (go + 7) = some v0) (gK : K gb (go + 7)) (ga : ¬ arrB hd gb) (gR : gb ≠ RB) (gm : ¬ Mem gb go) :
    ∃ A' cap' w2 M', (Builtin.append_ #[t, t] ty #[hdv hd n, .slice (some ⟨W.heap.size, 0, none⟩) 1 1]).run Yba.prog (W.alloc (.cells #[ptr gb go] e)) = .ok (.slice (some ⟨A', 0, none⟩) (n + 1) cap') w2 ∧
      w2.cell? ⟨RB, ro, none⟩ = some (hdv hd n) ∧ w2.frozen? ⟨RB, ro, none⟩ = false ∧ w2.cell? ⟨gb, go + 7, none⟩ = some v0 ∧ w2.frozen? ⟨gb, go + 7, none⟩ = false ∧
      Stp W M (((w2.setCell ⟨RB, ro, none⟩ (.slice (some ⟨A', 0, none⟩) (n + 1) cap')).setCell ⟨gb, go + 7, none⟩ (.int .i64 ((n : Int) + 1))).drew) M' ∧
      RkZ (((w2.setCell ⟨RB, ro, none⟩ (.slice (some ⟨A', 0, none⟩) (n + 1) cap')).setCell ⟨gb, go + 7, none⟩ (.int .i64 ((n : Int) + 1))).drew) M' K (Mem1 Mem gb go) RB ro (some (A', cap')) (n + 1) e ∧
      Fz W M M' K hd RB ro ∧ Gr W hd (some (A', cap')) := by
  have s1 := Stp.away hA #[ptr gb go] e
  have rws : Rw (W.alloc (.cells #[ptr gb go] e)) M e hd n := by
    have hr := h.rows
    rcases hd with _ | ⟨A, cap⟩
    · exact hr
    · exact ⟨hr.1, hr.2.1, s1.shape _ _ _ hr.2.2.1, hr.2.2.2⟩
  obtain ⟨A', cap', w2, M2, hrun, st, rw2, hA', fr, new, old⟩ := app_run e t ty i z ht hi hz hsz hby hzc _ M s1.agr hd n rws hn W.heap.size (ptr gb go) (by
    rw [World.cell?_alloc_at _ _ _ 0 rfl]
    rfl) rfl
  have szA : (W.alloc (.cells #[ptr gb go] e)).heap.size = W.heap.size + 1 := by simp
  have bR : RB < W.heap.size := hA.lt h.hdr
  have bg : gb < W.heap.size := hA.lt g7
  have m0 : M2 RB ro = some (hdv hd n) := (fr RB ro (by omega) h.RA).trans h.hdr
  have m7 : M2 gb (go + 7) = some v0 := (fr gb (go + 7) (by omega) ga).trans g7
  have aN : ∀ b, b < W.heap.size → ¬ arrB hd b → b ≠ A' := by
    intro b hb hn'
    rcases hA' with h' | h'
    · rintro rfl
      exact hn' ⟨cap', h'⟩
    · omega
  have aR : RB ≠ A' := aN RB bR h.RA
  have ag : gb ≠ A' := aN gb bg ga
  have t2 := s1.trans st
  have t3 := t2.set m0 (.slice (some ⟨A', 0, none⟩) (n + 1) cap')
  have t4 := t3.set (b := gb) (o := go + 7) (u := v0) (by rw [up_other _ _ (Or.inl gR)]; exact m7) (.int .i64 ((n : Int) + 1))
  refine ⟨A', cap', w2, _, hrun, (st.agr _ _ _ m0).1, (st.agr _ _ _ m0).2, (st.agr _ _ _ m7).1, (st.agr _ _ _ m7).2, t4.drew, ?_, ?_, ?_⟩
  · have row' : ∀ k, up (up M2 RB ro (.slice (some ⟨A', 0, none⟩) (n + 1) cap')) gb (go + 7) (.int .i64 ((n : Int) + 1)) A' k = M2 A' k := fun k => by
      rw [up_other _ _ (Or.inl (Ne.symm ag)), up_other _ _ (Or.inl (Ne.symm aR))]
    have old' : ∀ xb xo, Mem xb xo → up (up M2 RB ro (.slice (some ⟨A', 0, none⟩) (n + 1) cap')) gb (go + 7) (.int .i64 ((n : Int) + 1)) xb (xo + 7) = M xb (xo + 7) := fun xb xo hm => by
      obtain ⟨f1, f2, f3⟩ := h.far xb xo hm
      obtain ⟨B, k, hB, hk, he⟩ := h.mem xb xo hm
      obtain ⟨yb, yo, hy, he2, hr⟩ := h.ent B k hB hk
      rw [he] at he2
      obtain ⟨rfl, rfl⟩ := ptr_inj he2
      have hlt := hA.lt hr
      rw [up_other _ _ ?_, up_other _ _ (Or.inl f2), fr xb (xo + 7) (by omega) f1]
      by_cases e1 : xb = gb
      · right
        intro e2
        have : xo = go := by omega
        subst e1 this
        exact gm hm
      · exact Or.inl e1
    have sh := t4.drew.shape
    refine ⟨?_, ⟨by have := rw2.1; omega, rw2.2.1, Shp.set (Shp.set rw2.2.2.1 _ _ _) _ _ _, fun k hk => by rw [row']; exact rw2.2.2.2 k hk⟩, ?_, ?_, ?_, h.hdrK, fun ha => aR (arrB_some.1 ha)⟩
    · rw [up_other _ _ (Or.inl (Ne.symm gR)), up_same]
      rfl
    · intro B k hB hk
      obtain rfl := arrB_some.1 hB
      by_cases hkn : k = n
      · subst hkn
        refine ⟨gb, go, Or.inr ⟨rfl, rfl⟩, (row' k).trans new, up_same _ _ _ _⟩
      · obtain ⟨A0, c0, h0⟩ : ∃ A0 c0, hd = some (A0, c0) := by
          rcases hd with _ | ⟨A0, c0⟩
          · have : n = 0 := h.rows
            omega
          · exact ⟨A0, c0, rfl⟩
        obtain ⟨xb, xo, hm, he, hr⟩ := h.ent A0 k ⟨c0, h0⟩ (by omega)
        refine ⟨xb, xo, Or.inl hm, ?_, (old' xb xo hm).trans hr⟩
        rw [row', old A0 ⟨c0, h0⟩ k (by omega)]
        exact he
    · intro xb xo hm
      rcases hm with hm | ⟨rfl, rfl⟩
      · obtain ⟨B, k, hB, hk, he⟩ := h.mem xb xo hm
        refine ⟨A', k, ⟨cap', rfl⟩, by omega, ?_⟩
        rw [row', old B hB k hk]
        exact he
      · exact ⟨A', n, ⟨cap', rfl⟩, by omega, (row' n).trans new⟩
    · intro xb xo hm
      rcases hm with hm | ⟨rfl, rfl⟩
      · obtain ⟨f1, f2, f3⟩ := h.far xb xo hm
        refine ⟨fun ha => ?_, f2, f3⟩
        obtain ⟨B, k, hB, hk, he⟩ := h.mem xb xo hm
        obtain ⟨yb, yo, hy, he2, hr⟩ := h.ent B k hB hk
        rw [he] at he2
        obtain ⟨rfl, rfl⟩ := ptr_inj he2
        exact aN xb (hA.lt hr) f1 (arrB_some.1 ha)
      · exact ⟨fun ha => ag (arrB_some.1 ha), gR, gK⟩
  · intro b o hb hk ha hne
    rw [up_other _ _ ?_, up_other _ _ ?_]
    · exact fr b o (by omega) ha
    · by_cases e1 : b = RB
      · exact Or.inr fun e2 => hne ⟨e1, e2⟩
      · exact Or.inl e1
    · by_cases e1 : b = gb
      · right
        intro e2
        subst e1 e2
        exact hk gK
      · exact Or.inl e1
  · rcases hA' with h' | h'
    · exact Or.inl h'.symm
    · exact Or.inr ⟨A', cap', rfl, by omega⟩
end Go.Proofs.Ybulkdcoi
