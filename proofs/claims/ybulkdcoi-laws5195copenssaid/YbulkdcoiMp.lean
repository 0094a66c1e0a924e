/-
  A MAP FROM NAMES TO GROUPS; steps that may turn a map.
-/
import Derived.Test.YbulkdcoiZ
import Derived.Maps.OwnSet
import Derived.Maps.Views
namespace Go.Proofs.Ybulkdcoi
open Go.RowKit
set_option linter.unusedVariables false

/-- From W, M to w', M'; the blocks of X may turn. -/
structure Sx (X : Nat → Prop) (W : World) (M : Cel) (w' : World) (M' : Cel) : Prop where
  agr : Agr w' M'
  os : w'.os = W.os
  tape : w'.tape = W.tape
  output : w'.output = W.output
  size : W.heap.size ≤ w'.heap.size
  block : ∀ k, k < W.heap.size → ¬ X k → (∀ o, M k o = none) → w'.heap[k]? = W.heap[k]?
  fresh : ∀ b o, M' b o ≠ none → M b o ≠ none ∨ W.heap.size ≤ b
  shape : ∀ k n t, Shp W k n t → Shp w' k n t

theorem Stp.sx {W w' : World} {M M' : Cel} (h : Stp W M w' M') (X : Nat → Prop) : Sx X W M w' M' := ⟨h.agr, h.os, h.tape, h.output, h.size, fun k hk _ hn => h.block k hk hn, h.fresh, h.shape⟩
theorem Sx.trans {X : Nat → Prop} {W w1 w2 : World} {M M1 M2 : Cel} (h : Sx X W M w1 M1) (k : Sx X w1 M1 w2 M2) : Sx X W M w2 M2 :=
  ⟨k.agr, k.os.trans h.os, k.tape.trans h.tape, k.output.trans h.output, Nat.le_trans h.size k.size,
    fun b hb hx hn => (k.block b (Nat.lt_of_lt_of_le hb h.size) hx (fun o => by
      cases e : M1 b o with
      | none => rfl
      | some v =>
        rcases h.fresh b o (by rw [e]; simp) with h' | h'
        · exact absurd (hn o) h'
        · omega)).trans (h.block b hb hx hn),
    fun b o hm => by
      rcases k.fresh b o hm with h' | h'
      · exact h.fresh b o h'
      · exact Or.inr (Nat.le_trans h.size h'), fun k' n t hs => k.shape k' n t (h.shape k' n t hs)⟩
theorem Sx.more {X Y : Nat → Prop} {W w' : World} {M M' : Cel} (h : Sx X W M w' M') (hxy : ∀ k, k < W.heap.size → X k → Y k) : Sx Y W M w' M' :=
  ⟨h.agr, h.os, h.tape, h.output, h.size, fun k hk hn hm => h.block k hk (fun hx => hn (hxy k hk hx)) hm, h.fresh, h.shape⟩

theorem Stp.obj {W : World} {M : Cel} (hA : Agr W M) (o : Obj) : Stp W M (W.alloc o) M :=
  ⟨fun b o' v hv => by
    have hlt := hA.lt hv
    exact ⟨cell?_alloc_old _ (hA _ _ _ hv).1, by rw [World.frozen?_alloc_old _ _ _ (Nat.ne_of_lt hlt)]; exact (hA _ _ _ hv).2⟩, rfl, rfl, rfl, by simp, fun k hk _ => heap_alloc_old W _ hk, fun b o hb => Or.inl hb, fun k n t hs => by
    obtain ⟨c, hc, hn⟩ := hs
    have hk : k < W.heap.size := (Array.getElem?_eq_some_iff.1 hc).1
    exact ⟨c, (heap_alloc_old W _ hk).trans hc, hn⟩⟩

theorem Agr.notMap {W : World} {M : Cel} (hA : Agr W M) {mb : Nat} {es : Array MapEntry} {cl : Nat} (hm : W.heap[mb]? = some (.map es cl)) (o : Nat) : M mb o = none := by
  cases e : M mb o with
  | none => rfl
  | some v =>
    have := (hA _ _ _ e).1
    simp [World.cell?, hm] at this

theorem Sx.map {X : Nat → Prop} {W w' : World} {M : Cel} (hA : Agr W M) {mb : Nat} (hm : ∃ es cl, W.heap[mb]? = some (.map es cl)) (hg : W.grownBy w' (some mb)) (hX : X mb) : Sx X W M w' M := by
  obtain ⟨es, cl, hm⟩ := hm
  have key : ∀ b o v, M b o = some v → w'.heap[b]? = W.heap[b]? := fun b o v hv => by
    have hlt := hA.lt hv
    refine hg.block b hlt (fun e => ?_)
    cases e
    rw [hA.notMap hm o] at hv
    cases hv
  refine ⟨fun b o v hv => ⟨(World.cell?_of_block (a := ⟨b, o, none⟩) (key b o v hv)).trans (hA _ _ _ hv).1, (World.frozen?_of_block (a := ⟨b, o, none⟩) (key b o v hv)).trans (hA _ _ _ hv).2⟩, hg.os, hg.tape, hg.output, hg.size, fun k hk hx _ => hg.block k hk (fun e => by cases e; exact hx hX), fun b o hb => Or.inl hb, fun k n t hs => ?_⟩
  obtain ⟨c, hc, hn⟩ := hs
  refine ⟨c, (hg.block k (Array.getElem?_eq_some_iff.1 hc).1 (fun e => ?_)).trans hc, hn⟩
  cases e
  rw [hm] at hc
  cases hc

/-- How the map's elements read. -/
def rd (v : Value) : Option (DataW Unit × List MemPlace) :=
  match v with
  | .pointer none => some (.lit (.bool false), [])
  | .pointer (some a) => if a = ⟨a.block, 0, none⟩ then some (.lit (.int .i64 a.block), []) else none
  | _ => none
def encO : Option Nat → DataW Unit
  | none => .lit (.bool false)
  | some b => .lit (.int .i64 b)
def ptrO : Option Nat → Value
  | none => .pointer none
  | some b => ptr b 0
theorem rd_ptr (b : Nat) : rd (ptr b 0) = some (encO (some b), []) := by simp [rd, encO]
theorem rd_inv {v : Value} {x : Option Nat} {ps : List MemPlace} (h : rd v = some (encO x, ps)) : v = ptrO x := by
  unfold rd at h
  split at h
  · cases x with
    | none => rfl
    | some b => simp [encO] at h
  · split at h
    · rename_i a e
      cases x with
      | none => simp [encO] at h
      | some b =>
        simp [encO] at h
        rw [e, show a.block = b by omega]
        rfl
    · cases h
  · cases h

/-- The map in block mb: n names; f: the block of each one's group. -/
def Mp (W : World) (mb n : Nat) (f : List UInt8 → Option Nat) : Prop :=
  ∃ D : DataW Unit, W.ownsMap Yba.prog 9 rd mb n D ∧ Maps.size D = n ∧ ∀ l, D.atKey (.string l) (encO none) = encO (f l) ∧ Maps.has D (.string l) = (f l).isSome

theorem Mp.isMap {W : World} {mb n : Nat} {f : List UInt8 → Option Nat} (h : Mp W mb n f) : ∃ es cl, W.heap[mb]? = some (.map es cl) := by
  obtain ⟨D, ⟨es, cl, hb, _⟩, _⟩ := h
  exact ⟨es, cl, hb⟩
theorem Mp.lt {W : World} {mb n : Nat} {f : List UInt8 → Option Nat} (h : Mp W mb n f) : mb < W.heap.size := by
  obtain ⟨es, cl, hb⟩ := h.isMap
  exact (Array.getElem?_eq_some_iff.1 hb).1
theorem Mp.block {W w' : World} {mb n : Nat} {f : List UInt8 → Option Nat} (h : Mp W mb n f) (he : w'.heap[mb]? = W.heap[mb]?) : Mp w' mb n f := by
  obtain ⟨D, ⟨es, cl, hb, r⟩, h2⟩ := h
  exact ⟨D, ⟨es, cl, he.trans hb, r⟩, h2⟩
theorem Mp.step {X : Nat → Prop} {W w' : World} {M M' : Cel} {mb n : Nat} {f : List UInt8 → Option Nat} (h : Mp W mb n f) (hA : Agr W M) (hs : Sx X W M w' M') (hx : ¬ X mb) : Mp w' mb n f := by
  obtain ⟨es, cl, hb⟩ := h.isMap
  exact h.block (hs.block mb h.lt hx (hA.notMap hb))
theorem Mp.made (W : World) : Mp (W.alloc (.map #[] 0)) W.heap.size 0 (fun _ => none) :=
  ⟨.map [], World.ownsMap_made (H := Unit) W Yba.prog 9 rd, rfl, fun l => ⟨rfl, rfl⟩⟩

theorem Mp.len {W : World} {mb n : Nat} {f : List UInt8 → Option Nat} (h : Mp W mb n f) {t e : TypeId} (ht : Yba.prog.underlying t = some (.map 9 e)) (ty : TypeId) : (Builtin.len_ #[t] ty #[.map (some mb)]).run Yba.prog W = .ok (.int .i64 n) W := by
  obtain ⟨D, h1, h2, _⟩ := h
  rw [h1.len ht ty, h2]

theorem Mp.look {W : World} {mb n : Nat} {f : List UInt8 → Option Nat} (h : Mp W mb n f) {t e : TypeId} (ht : Yba.prog.underlying t = some (.map 9 e)) (hz : (zeroValue e).run Yba.prog W = .ok (.pointer none) W) (s : ByteArray) (hs : s.size ≤ maxLen) :
    (Instr.lookup t (.map (some mb)) (.string s) false).run Yba.prog W = .ok (ptrO (f s.data.toList)) W := by
  obtain ⟨D, h1, h2, h3⟩ := h
  obtain ⟨v, ps, hrun, hv⟩ := h1.lookup (Maps.string_keyed Yba.underlying9) ht hz (zd := encO none) (zp := []) rfl (key := .string s) (kl := .string s.data.toList) (by simp [keyOf, mapKey, Yba.underlying9, hs])
  rw [(h3 _).1] at hv
  rw [hrun, rd_inv hv]

theorem Mp.put {W : World} {mb n : Nat} {f : List UInt8 → Option Nat} (h : Mp W mb n f) {t e : TypeId} (ht : Yba.prog.underlying t = some (.map 9 e)) (hn : n ≤ 1000) (s : ByteArray) (hs : s.size ≤ maxLen) (hf : f s.data.toList = none) (b : Nat) :
    ∃ w', (Instr.mapUpdate t (.map (some mb)) (.string s) (ptr b 0)).run Yba.prog W = .ok () w' ∧ Mp w' mb (n + 1) (fun l => if l = s.data.toList then some b else f l) ∧ W.grownBy w' (some mb) := by
  obtain ⟨D, h1, h2, h3⟩ := h
  obtain ⟨w', hrun, h1', hg⟩ := h1.update (Maps.string_keyed Yba.underlying9) ht (by unfold maxLen; omega) (key := .string s) (kl := .string s.data.toList) (val := ptr b 0) (d := encO (some b)) (ps := []) (by simp [keyOf, mapKey, Yba.underlying9, hs]) (rd_ptr b)
  have hk : WideAt.IsKeyLit (.string s.data.toList) := by simp [WideAt.IsKeyLit]
  refine ⟨w', hrun, ⟨_, h1', ?_, fun l => ?_⟩, hg⟩
  · rw [Maps.size_put (h1.tidy (Maps.string_keyed Yba.underlying9)), (h3 _).2, hf, h2]
    simp
  · by_cases hl : l = s.data.toList
    · subst hl
      simp only [if_pos]
      exact ⟨Maps.atKey_put_same h1.isMap hk _ _, Maps.has_put_same h1.isMap hk _⟩
    · simp only [if_neg hl]
      have hne : Lit.string l ≠ Lit.string s.data.toList := fun e => hl (by simpa using e)
      exact ⟨(Maps.atKey_put_other hne _ _).trans (h3 l).1, (Maps.has_put_other hne _).trans (h3 l).2⟩
end Go.Proofs.Ybulkdcoi
