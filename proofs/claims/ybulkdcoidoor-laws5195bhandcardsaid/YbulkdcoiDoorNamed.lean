/-
  'hand' IN THE NAMED CASE, from 'St0' to 'St'; the lock tried and given back; what the map answers.
-/
import Derived.Test.YbulkdcoiDoorSt
namespace Go.Proofs.YbulkdcoiDoor
open Go.RowKit Go.MuLone

theorem St.relock {w W : World} {R C G M : Nat} {room nsz : Int} {shed : ByteArray} {ev cv gv : Value} {D : DataW Unit} (h : St w W R C G M room nsz shed ev cv gv D) (hRC : R ≠ C) (hRG : R ≠ G) (hMR : M ≠ R) (hR0 : R ≠ 0) (hwR : w.heap.size ≤ R) :
    St w ((W.setCell ⟨R, 0, none⟩ (.int .i32 1)).setCell ⟨R, 0, none⟩ (.int .i32 0)) R C G M room nsz shed ev cv gv D := by
  have far : ∀ {b o : Nat} {v : Value}, W.cell? ⟨b, o, none⟩ = some v → (R ≠ b ∨ 0 ≠ o) → ((W.setCell ⟨R, 0, none⟩ (.int .i32 1)).setCell ⟨R, 0, none⟩ (.int .i32 0)).cell? ⟨b, o, none⟩ = some v :=
    fun h' e => other_cell (other_cell h' (addr_ne e)) (addr_ne e)
  exact ⟨same_cell (same_cell h.lock), by simp [h.lockz], far h.rsize (Or.inr (by decide)), far h.rmap (Or.inr (by decide)), far h.csize (Or.inl hRC), far h.cc (Or.inl hRC), far h.cg (Or.inl hRC), far h.cshed (Or.inl hRC), far h.gsize (Or.inl hRG), far h.sent (Or.inl hR0),
    (h.own.setCell (a := ⟨R, 0, none⟩) hMR _).setCell (a := ⟨R, 0, none⟩) hMR _, (h.bel.setCell (p := ⟨R, 0, none⟩) hwR _).setCell (p := ⟨R, 0, none⟩) hwR _⟩

theorem named_shed {w W : World} {R C G M : Nat} {room n : Int} {shed name : ByteArray} {t : TypeId} {x : Value} {D : DataW Unit} (h : St0 w W R C G M room n shed name (.iface t x) D) (hRC : R ≠ C) (hRG : R ≠ G) (hMR : M ≠ R) (hR0 : R ≠ 0) (hwR : w.heap.size ≤ R) (hs : shed.toList.isEmpty = false) :
    Calls Ybad.prog 5 #[.pointer (some ⟨R, 0, none⟩), .pointer (some ⟨C, 0, none⟩)] W fun e w' => e = .returned (.iface t x) ∧ St w w' R C G M room n shed (.iface t x) (.pointer (some ⟨C, 0, none⟩)) (.pointer (some ⟨G, 0, none⟩)) D := by
  refine (hand_shed R C shed (.iface t x) W hRC hR0 hs h.st.lock h.st.lockz h.st.cshed h.st.sent ⟨_, _, rfl⟩).mono ?_
  rintro e w' ⟨rfl, rfl⟩
  exact ⟨rfl, h.st.relock hRC hRG hMR hR0 hwR⟩

theorem named_keep {w W : World} {R C G M : Nat} {room n : Int} {shed name : ByteArray} {ev : Value} {D : DataW Unit} (h : St0 w W R C G M room n shed name ev D) (hRC : R ≠ C) (hRG : R ≠ G) (hGC : G ≠ C) (hMR : M ≠ R) (hMC : M ≠ C) (hMG : M ≠ G) (hR0 : R ≠ 0) (hC0 : C ≠ 0) (hG0 : G ≠ 0)
    (hwR : w.heap.size ≤ R) (hwC : w.heap.size ≤ C) (hwG : w.heap.size ≤ G) (hs : shed.toList.isEmpty = true) (hn1 : 2 ≤ n) (hn2 : n ≤ 5) :
    Calls Ybad.prog 5 #[.pointer (some ⟨R, 0, none⟩), .pointer (some ⟨C, 0, none⟩)] W fun e w' => e = .returned .nilIface ∧ St w w' R C G M room (n - 1) shed ev (.pointer none) (.pointer none) D := by
  have hCR : C ≠ R := fun e => hRC e.symm
  have hGR : G ≠ R := fun e => hRG e.symm
  have hCG : C ≠ G := fun e => hGC e.symm
  refine (hand_keep R C G shed _ n W hRC hGC hGR hs h.st.lock h.st.lockz h.st.cshed hn1 hn2 h.st.cc h.st.cg h.celem h.st.gsize h.glen h.grank h.z0 h.z1 h.z2).mono ?_
  rintro e w' ⟨rfl, rfl⟩
  have far : ∀ {b o : Nat} {v : Value}, W.cell? ⟨b, o, none⟩ = some v → (R ≠ b ∨ 0 ≠ o) → (G ≠ b ∨ 1 ≠ o) → (C ≠ b ∨ 43 ≠ o) → (C ≠ b ∨ 44 ≠ o) →
      (((((W.setCell ⟨R, 0, none⟩ (.int .i32 1)).drew.setCell ⟨G, 1, none⟩ (.int .i64 (n - 1))).setCell ⟨C, 43, none⟩ (.pointer none)).setCell ⟨C, 44, none⟩ (.pointer none)).setCell ⟨R, 0, none⟩ (.int .i32 0)).cell? ⟨b, o, none⟩ = some v :=
    fun h' e1 e2 e3 e4 => other_cell (other_cell (other_cell (other_cell (w := (W.setCell ⟨R, 0, none⟩ (.int .i32 1)).drew) (other_cell (w := W) h' (addr_ne e1)) (addr_ne e2)) (addr_ne e3)) (addr_ne e4)) (addr_ne e1)
  have up : ∀ {b o : Nat} {v : Value}, W.cell? ⟨b, o, none⟩ = some v → (R ≠ b ∨ 0 ≠ o) → (W.setCell ⟨R, 0, none⟩ (.int .i32 1)).drew.cell? ⟨b, o, none⟩ = some v := fun h' e1 => other_cell (w := W) h' (addr_ne e1)
  refine ⟨rfl, ?_, ?_, far h.st.rsize (Or.inr (by decide)) (Or.inl hGR) (Or.inl hCR) (Or.inl hCR), far h.st.rmap (Or.inr (by decide)) (Or.inl hGR) (Or.inl hCR) (Or.inl hCR), far h.st.csize (Or.inl hRC) (Or.inl hGC) (Or.inr (by decide)) (Or.inr (by decide)), ?_, ?_,
    far h.st.cshed (Or.inl hRC) (Or.inl hGC) (Or.inr (by decide)) (Or.inr (by decide)), ?_, far h.st.sent (Or.inl hR0) (Or.inl hG0) (Or.inl hC0) (Or.inl hC0), ?_, ?_⟩
  · exact same_cell (other_cell (other_cell (other_cell (w := (W.setCell ⟨R, 0, none⟩ (.int .i32 1)).drew) (same_cell (w := W) h.st.lock) (addr_ne (Or.inl hGR))) (addr_ne (Or.inl hCR))) (addr_ne (Or.inl hCR)))
  · simp [h.st.lockz]
  · exact other_cell (other_cell (same_cell (other_cell (up h.st.cc (Or.inl hRC)) (addr_ne (Or.inl hGC)))) (addr_ne (Or.inr (by decide)))) (addr_ne (Or.inl hRC))
  · exact other_cell (same_cell (other_cell (other_cell (up h.st.cg (Or.inl hRC)) (addr_ne (Or.inl hGC))) (addr_ne (Or.inr (by decide))))) (addr_ne (Or.inl hRC))
  · exact other_cell (other_cell (other_cell (same_cell (up h.st.gsize (Or.inl hRG))) (addr_ne (Or.inl hCG))) (addr_ne (Or.inl hCG))) (addr_ne (Or.inl hRG))
  · exact ((((h.st.own.setCell (a := ⟨R, 0, none⟩) hMR _).drew.setCell (a := ⟨G, 1, none⟩) hMG _).setCell (a := ⟨C, 43, none⟩) hMC _).setCell (a := ⟨C, 44, none⟩) hMC _).setCell (a := ⟨R, 0, none⟩) hMR _
  · exact (((((h.st.bel.setCell (p := ⟨R, 0, none⟩) hwR _).drew).setCell (p := ⟨G, 1, none⟩) hwG _).setCell (p := ⟨C, 43, none⟩) hwC _).setCell (p := ⟨C, 44, none⟩) hwC _).setCell (p := ⟨R, 0, none⟩) hwR _

theorem named_last {w W : World} {R C G M : Nat} {room : Int} {shed name : ByteArray} {ev : Value} {D : DataW Unit} (h : St0 w W R C G M room 1 shed name ev D) (hRC : R ≠ C) (hRG : R ≠ G) (hGC : G ≠ C) (hMR : M ≠ R) (hMC : M ≠ C) (hMG : M ≠ G) (hM0 : M ≠ 0) (hR0 : R ≠ 0) (hC0 : C ≠ 0) (hG0 : G ≠ 0)
    (hwR : w.heap.size ≤ R) (hwC : w.heap.size ≤ C) (hwG : w.heap.size ≤ G) (hwM : w.heap.size ≤ M) (hs : shed.toList.isEmpty = true) (hne : name.toList.isEmpty = false) (hsz : name.size ≤ maxLen) :
    Calls Ybad.prog 5 #[.pointer (some ⟨R, 0, none⟩), .pointer (some ⟨C, 0, none⟩)] W fun e w' => e = .returned .nilIface ∧ St w w' R C G M room 0 shed ev (.pointer none) (.pointer none) (D.del (.string name.data.toList)) := by
  have hCR : C ≠ R := fun e => hRC e.symm
  have hGR : G ≠ R := fun e => hRG e.symm
  have hCG : C ≠ G := fun e => hGC e.symm
  have hRM : R ≠ M := fun e => hMR e.symm
  have hCM : C ≠ M := fun e => hMC e.symm
  have hGM : G ≠ M := fun e => hMG e.symm
  have h0M : 0 ≠ M := fun e => hM0 e.symm
  refine (hand_last (rdGrp G) R C G M 1 shed _ name D W hRC hGC hGR hMC hMG hMR hs h.st.lock h.st.lockz h.st.cshed hne hsz h.st.cc h.st.cg h.celem h.gname h.st.gsize h.glen h.grank h.st.rmap h.st.own h.z0 h.z1 h.z2).mono ?_
  rintro e w' ⟨rfl, w1, hown, hturn, rfl⟩
  have t : ∀ (b o : Nat), b ≠ M → w1.cell? ⟨b, o, none⟩ = ((lockedW W R).setCell ⟨G, 1, none⟩ (.int .i64 0)).cell? ⟨b, o, none⟩ := fun b o hb => (turned_cell hturn ⟨b, o, none⟩ hb).1
  have tz : ∀ (b o : Nat), b ≠ M → w1.frozen? ⟨b, o, none⟩ = W.frozen? ⟨b, o, none⟩ := fun b o hb => (turned_cell hturn ⟨b, o, none⟩ hb).2.trans (by
    show ((lockedW W R).setCell ⟨G, 1, none⟩ (.int .i64 0)).frozen? ⟨b, o, none⟩ = _
    simp [locked_frozen])
  have up : ∀ {b o : Nat} {v : Value}, W.cell? ⟨b, o, none⟩ = some v → b ≠ M → (b ≠ R ∨ o ≠ 0) → (G ≠ b ∨ 1 ≠ o) → w1.cell? ⟨b, o, none⟩ = some v := fun {b o v} h' hb e1 e2 =>
    (t b o hb).trans (other_cell (w := lockedW W R) ((locked_cell W R b o e1).trans h') (addr_ne e2))
  have far : ∀ {b o : Nat} {v : Value}, W.cell? ⟨b, o, none⟩ = some v → b ≠ M → (b ≠ R ∨ o ≠ 0) → (G ≠ b ∨ 1 ≠ o) → (C ≠ b ∨ 43 ≠ o) → (C ≠ b ∨ 44 ≠ o) → (R ≠ b ∨ 0 ≠ o) →
      (((w1.setCell ⟨C, 43, none⟩ (.pointer none)).setCell ⟨C, 44, none⟩ (.pointer none)).setCell ⟨R, 0, none⟩ (.int .i32 0)).cell? ⟨b, o, none⟩ = some v :=
    fun h' hb e1 e2 e3 e4 e5 => other_cell (other_cell (other_cell (up h' hb e1 e2) (addr_ne e3)) (addr_ne e4)) (addr_ne e5)
  refine ⟨rfl, ?_, ?_, far h.st.rsize hRM (Or.inr (by decide)) (Or.inl hGR) (Or.inl hCR) (Or.inl hCR) (Or.inr (by decide)), far h.st.rmap hRM (Or.inr (by decide)) (Or.inl hGR) (Or.inl hCR) (Or.inl hCR) (Or.inr (by decide)),
    far h.st.csize hCM (Or.inl hCR) (Or.inl hGC) (Or.inr (by decide)) (Or.inr (by decide)) (Or.inl hRC), ?_, ?_, far h.st.cshed hCM (Or.inl hCR) (Or.inl hGC) (Or.inr (by decide)) (Or.inr (by decide)) (Or.inl hRC), ?_,
    far h.st.sent h0M (Or.inl (fun e => hR0 e.symm)) (Or.inl hG0) (Or.inl hC0) (Or.inl hC0) (Or.inl hR0), ?_, ?_⟩
  · refine same_cell (x := .int .i32 1) (other_cell (other_cell ((t R 0 hRM).trans ?_) (addr_ne (Or.inl hCR))) (addr_ne (Or.inl hCR)))
    exact other_cell (w := lockedW W R) (locked_lock W R h.st.lock) (addr_ne (Or.inl hGR))
  · simp [tz R 0 hRM, h.st.lockz]
  · exact other_cell (other_cell (same_cell (up h.st.cc hCM (Or.inl hCR) (Or.inl hGC))) (addr_ne (Or.inr (by decide)))) (addr_ne (Or.inl hRC))
  · exact other_cell (same_cell (other_cell (up h.st.cg hCM (Or.inl hCR) (Or.inl hGC)) (addr_ne (Or.inr (by decide))))) (addr_ne (Or.inl hRC))
  · refine other_cell (other_cell (other_cell ((t G 1 hGM).trans ?_) (addr_ne (Or.inl hCG))) (addr_ne (Or.inl hCG))) (addr_ne (Or.inl hRG))
    exact same_cell (w := lockedW W R) ((locked_cell W R G 1 (Or.inl hGR)).trans h.st.gsize)
  · exact ((hown.setCell (a := ⟨C, 43, none⟩) hMC _).setCell (a := ⟨C, 44, none⟩) hMC _).setCell (a := ⟨R, 0, none⟩) hMR _
  · have hb1 : Below w.heap.size w w1 := (((h.st.bel.setCell (p := ⟨R, 0, none⟩) hwR (.int .i32 1)).drew.setCell (p := ⟨G, 1, none⟩) hwG (.int .i64 0)).drew).grown hturn.grown (by have := h.st.bel.size; simpa [World.setCell] using this) (fun k hk => by cases hk; exact hwM)
    exact ((hb1.setCell (p := ⟨C, 43, none⟩) hwC _).setCell (p := ⟨C, 44, none⟩) hwC _).setCell (p := ⟨R, 0, none⟩) hwR _

/-- WHAT THE MAP ANSWERS. -/
theorem look_g {W : World} {G M : Nat} {name : ByteArray} (hsz : name.size ≤ maxLen) (h : W.ownsMap Ybad.prog 9 (rdGrp G) M 1 ((DataW.map []).put (.string name.data.toList) (.lit (.bool true)))) :
    (Instr.lookup 62 (.map (some M)) (.string name) false).run Ybad.prog W = .ok (.pointer (some ⟨G, 0, none⟩)) W := by
  obtain ⟨v, ps, hrun, hv⟩ := h.lookup (Maps.string_keyed Ybad.underlying9) Ybad.underlying62 (z := .pointer none) (Ybad.zeroValue41 W) (zd := .lit (.bool false)) (zp := []) rfl (key := .string name) (kl := .string name.data.toList) (by simp [keyOf, mapKey, Ybad.underlying9, hsz])
  rw [hrun]
  have hat : ((DataW.map []).put (.string name.data.toList) (.lit (.bool true)) : DataW Unit).atKey (.string name.data.toList) (.lit (.bool false)) = .lit (.bool true) := by simp [DataW.put, DataW.insert, DataW.atKey, Lit.sameKey]
  rw [hat] at hv
  unfold rdGrp at hv
  split at hv
  · split at hv
    · rename_i e; subst e; rfl
    · cases hv
  · simp at hv
  · cases hv
theorem look_ok {W : World} {G M : Nat} {name : ByteArray} {D : DataW Unit} {b : Bool} (hsz : name.size ≤ maxLen) (h : W.ownsMap Ybad.prog 9 (rdGrp G) M 1 D) (hb : Maps.has D (.string name.data.toList) = b) :
    ∃ v, (Instr.lookup 62 (.map (some M)) (.string name) true).run Ybad.prog W = .ok (.tuple #[v, .bool b]) W := by
  obtain ⟨v, ps, hrun, _⟩ := h.look_ok (Maps.string_keyed Ybad.underlying9) Ybad.underlying62 (z := .pointer none) (Ybad.zeroValue41 W) (zd := .lit (.bool false)) (zp := []) rfl (key := .string name) (kl := .string name.data.toList) (by simp [keyOf, mapKey, Ybad.underlying9, hsz])
  rw [hb] at hrun
  exact ⟨v, hrun⟩
theorem has_put (l : List UInt8) : Maps.has ((DataW.map []).put (.string l) (.lit (.bool true)) : DataW Unit) (.string l) = true := by simp [DataW.put, DataW.insert, Maps.has, Lit.sameKey]
theorem has_del (l : List UInt8) : Maps.has (((DataW.map []).put (.string l) (.lit (.bool true)) : DataW Unit).del (.string l)) (.string l) = false := by simp [DataW.put, DataW.del, DataW.insert, Maps.has, Lit.sameKey]
end Go.Proofs.YbulkdcoiDoor
