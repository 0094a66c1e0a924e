/-
  THE WALKS OF '(*reading).hand': the lock taken, the lock given back; between them what the case asks.
-/
import Derived.Test.YbulkdcoiDoorQueue
import Derived.Defers
namespace Go.Proofs.YbulkdcoiDoor
open Go.RowKit Go.MuLone

set_option maxRecDepth 100000 in
set_option maxHeartbeats 1600000 in
/-- The connection was shed: the sentinel comes back; the lock is free again. -/
theorem hand_shed (R C : Nat) (s : ByteArray) (ev : Value) (w : World) (hRC : R ≠ C) (hR0 : R ≠ 0) (hs : s.toList.isEmpty = false) (hm : w.cell? ⟨R, 0, none⟩ = some (.int .i32 0)) (hz : w.frozen? ⟨R, 0, none⟩ = false)
    (hd : w.cell? ⟨C, 55, none⟩ = some (.string s)) (hv : w.cell? ⟨0, 0, none⟩ = some ev) (hev : ∃ t x, ev = .iface t x) :
    Calls Ybad.prog 5 #[.pointer (some ⟨R, 0, none⟩), .pointer (some ⟨C, 0, none⟩)] w fun e w' => e = .returned ev ∧ w' = (w.setCell ⟨R, 0, none⟩ (.int .i32 1)).setCell ⟨R, 0, none⟩ (.int .i32 0) := by
  obtain ⟨t, x, rfl⟩ := hev
  have hCR : C ≠ R := fun e => hRC e.symm
  have h0R : 0 ≠ R := fun e => hR0 e.symm
  go_enter_defers Ybad.func5, Ybad.ntmps5
  go_wp2_with (go_at_call 9; refine (lock_free Ybad.muLib ⟨R, 0, none⟩ _ hm hz).mono ?_; rintro e w' ⟨rfl, rfl⟩)
  refine leaves_cons (f := 7) (args := #[.pointer (some ⟨R, 0, none⟩)]) (by simp) (by simp [go_sem]) ?_
  refine (unlock_deferred Ybad.muLib ⟨R, 0, none⟩ .returning _ ?_ ?_).mono ?_
  · exact World.cell?_setCell_same w ⟨R, 0, none⟩ (.int .i32 1) hm
  · simp [hz]
  rintro e u' w'' ⟨rfl, rfl, rfl⟩
  exact ⟨_, results_tmp rfl _ _ _, rfl, rfl⟩

/-- The world with the lock taken, the statement's order drawn. -/
def lockedW (w : World) (R : Nat) : World := (w.setCell ⟨R, 0, none⟩ (.int .i32 1)).drew
theorem locked_cell (w : World) (R : Nat) (b o : Nat) (h : b ≠ R ∨ o ≠ 0) : (lockedW w R).cell? ⟨b, o, none⟩ = w.cell? ⟨b, o, none⟩ := by
  show (w.setCell ⟨R, 0, none⟩ (.int .i32 1)).cell? ⟨b, o, none⟩ = _
  refine World.cell?_setCell_other _ _ _ _ ?_
  intro e
  cases e
  rcases h with h | h <;> exact h rfl
theorem locked_frozen (w : World) (R : Nat) (a : Addr) : (lockedW w R).frozen? a = w.frozen? a := by
  show (w.setCell ⟨R, 0, none⟩ (.int .i32 1)).frozen? a = _
  simp

set_option maxRecDepth 100000 in
set_option maxHeartbeats 1600000 in
/-- The connection was not shed: 'remove' is called, whatever it does; the lock is free again. -/
theorem hand_on (R C : Nat) (s : ByteArray) (w : World) (Q : World → Prop) (hRC : R ≠ C) (hs : s.toList.isEmpty = true) (hm : w.cell? ⟨R, 0, none⟩ = some (.int .i32 0)) (hz : w.frozen? ⟨R, 0, none⟩ = false)
    (hd : w.cell? ⟨C, 55, none⟩ = some (.string s))
    (hrem : Calls Ybad.prog 10 #[.pointer (some ⟨R, 3, none⟩), .pointer (some ⟨C, 43, none⟩)] (lockedW w R) fun e w' => e = .returned (.tuple #[]) ∧ (w'.cell? ⟨R, 0, none⟩ = some (.int .i32 1) ∧ w'.frozen? ⟨R, 0, none⟩ = false ∧ Q w')) :
    Calls Ybad.prog 5 #[.pointer (some ⟨R, 0, none⟩), .pointer (some ⟨C, 0, none⟩)] w fun e w' => e = .returned .nilIface ∧ ∃ w1, Q w1 ∧ w' = w1.setCell ⟨R, 0, none⟩ (.int .i32 0) := by
  have hCR : C ≠ R := fun e => hRC e.symm
  unfold lockedW at hrem
  go_enter_defers Ybad.func5, Ybad.ntmps5
  go_wp2_with (go_at_call 9; refine (lock_free Ybad.muLib ⟨R, 0, none⟩ _ hm hz).mono ?_; rintro e w' ⟨rfl, rfl⟩)
  rename_i K hK
  refine Code.wp_mono (Q := Exit.then K fun _ _ _ => False) (fun ex a w h => by cases ex <;> first | exact h | exact h.elim) ?_
  go_region_with (go_at_call 10; refine hrem.mono ?_; rintro e w1 ⟨rfl, hc1, hz1, hQ⟩)
  refine hK _ _ ?_
  clear hK K hrem
  go_wp2
  refine leaves_cons (f := 7) (args := #[.pointer (some ⟨R, 0, none⟩)]) (by simp) (by simp [go_sem]) ?_
  refine (unlock_deferred Ybad.muLib ⟨R, 0, none⟩ .returning _ hc1 hz1).mono ?_
  rintro e u' w'' ⟨rfl, rfl, rfl⟩
  exact ⟨_, results_tmp rfl _ _ _, rfl, _, hQ, rfl⟩

theorem locked_lock (w : World) (R : Nat) (h : w.cell? ⟨R, 0, none⟩ = some (.int .i32 0)) : (lockedW w R).cell? ⟨R, 0, none⟩ = some (.int .i32 1) := World.cell?_setCell_same w ⟨R, 0, none⟩ (.int .i32 1) h
theorem other_cell {w : World} {a b : Addr} {v x : Value} (h : w.cell? b = some x) (hab : a ≠ b) : (w.setCell a v).cell? b = some x := (World.cell?_setCell_other w a b v hab).trans h
theorem addr_ne {b o b' o' : Nat} (h : b ≠ b' ∨ o ≠ o') : (⟨b, o, none⟩ : Addr) ≠ ⟨b', o', none⟩ := by
  intro e
  cases e
  rcases h with h | h <;> exact h rfl

/-- The queue does not hold the connection. -/
theorem hand_nil (R C : Nat) (s : ByteArray) (w : World) (hRC : R ≠ C) (hs : s.toList.isEmpty = true) (hm : w.cell? ⟨R, 0, none⟩ = some (.int .i32 0)) (hz : w.frozen? ⟨R, 0, none⟩ = false)
    (hd : w.cell? ⟨C, 55, none⟩ = some (.string s)) (hg : w.cell? ⟨C, 44, none⟩ = some (.pointer none)) :
    Calls Ybad.prog 5 #[.pointer (some ⟨R, 0, none⟩), .pointer (some ⟨C, 0, none⟩)] w fun e w' => e = .returned .nilIface ∧ w' = (w.setCell ⟨R, 0, none⟩ (.int .i32 1)).drew.setCell ⟨R, 0, none⟩ (.int .i32 0) := by
  have hCR : C ≠ R := fun e => hRC e.symm
  refine (hand_on R C s w (fun w1 => w1 = (w.setCell ⟨R, 0, none⟩ (.int .i32 1)).drew) hRC hs hm hz hd ((remove_nil R C _ ((locked_cell w R C 44 (Or.inl hCR)).trans hg)).mono ?_)).mono ?_
  · rintro e w' ⟨rfl, rfl⟩
    exact ⟨rfl, locked_lock w R hm, (locked_frozen w R _).trans hz, rfl⟩
  · rintro e w' ⟨rfl, w1, rfl, rfl⟩
    exact ⟨rfl, rfl⟩

/-- It is in a group of its own. -/
theorem hand_own (R C : Nat) (s : ByteArray) (x0 : Value) (n : Int) (w : World) (hRC : R ≠ C) (hs : s.toList.isEmpty = true) (hm : w.cell? ⟨R, 0, none⟩ = some (.int .i32 0)) (hz : w.frozen? ⟨R, 0, none⟩ = false)
    (hd : w.cell? ⟨C, 55, none⟩ = some (.string s)) (hn1 : 1 ≤ n) (hn2 : n ≤ 5) (hc : w.cell? ⟨C, 43, none⟩ = some x0) (hg : w.cell? ⟨C, 44, none⟩ = some (.pointer (some ⟨C, 47, none⟩))) (he : w.cell? ⟨C, 45, none⟩ = some (.pointer none))
    (hnm : w.cell? ⟨C, 47, none⟩ = some (.string { data := #[] })) (hsz : w.cell? ⟨C, 48, none⟩ = some (.int .i64 n)) (hl : w.cell? ⟨C, 53, none⟩ = some (.int .i64 0)) (hr : w.cell? ⟨C, 54, none⟩ = some (.int .i64 0))
    (f0 : w.frozen? ⟨C, 43, none⟩ = false) (f1 : w.frozen? ⟨C, 44, none⟩ = false) (f2 : w.frozen? ⟨C, 48, none⟩ = false) :
    Calls Ybad.prog 5 #[.pointer (some ⟨R, 0, none⟩), .pointer (some ⟨C, 0, none⟩)] w fun e w' => e = .returned .nilIface ∧
      w' = ((((w.setCell ⟨R, 0, none⟩ (.int .i32 1)).drew.setCell ⟨C, 48, none⟩ (.int .i64 (n - 1))).setCell ⟨C, 43, none⟩ (.pointer none)).setCell ⟨C, 44, none⟩ (.pointer none)).setCell ⟨R, 0, none⟩ (.int .i32 0) := by
  have hCR : C ≠ R := fun e => hRC e.symm
  have k : ∀ o, (lockedW w R).cell? ⟨C, o, none⟩ = w.cell? ⟨C, o, none⟩ := fun o => locked_cell w R C o (Or.inl hCR)
  refine (hand_on R C s w (fun w1 => w1 = (((w.setCell ⟨R, 0, none⟩ (.int .i32 1)).drew.setCell ⟨C, 48, none⟩ (.int .i64 (n - 1))).setCell ⟨C, 43, none⟩ (.pointer none)).setCell ⟨C, 44, none⟩ (.pointer none)) hRC hs hm hz hd
    ((remove_own R C x0 n _ hn1 hn2 ((k _).trans hc) ((k _).trans hg) ((k _).trans he) ((k _).trans hnm) ((k _).trans hsz) ((k _).trans hl) ((k _).trans hr) ((locked_frozen w R _).trans f0) ((locked_frozen w R _).trans f1) ((locked_frozen w R _).trans f2)).mono ?_)).mono ?_
  · rintro e w' ⟨rfl, rfl⟩
    refine ⟨rfl, ?_, ?_, rfl⟩
    · exact other_cell (other_cell (other_cell (locked_lock w R hm) (addr_ne (Or.inl hCR))) (addr_ne (Or.inl hCR))) (addr_ne (Or.inl hCR))
    · simp [locked_frozen, hz]
  · rintro e w' ⟨rfl, w1, rfl, rfl⟩
    exact ⟨rfl, rfl⟩

/-- It is in a named group, with others. -/
theorem hand_keep (R C G : Nat) (s : ByteArray) (x0 : Value) (n : Int) (w : World) (hRC : R ≠ C) (hGC : G ≠ C) (hGR : G ≠ R) (hs : s.toList.isEmpty = true) (hm : w.cell? ⟨R, 0, none⟩ = some (.int .i32 0)) (hz : w.frozen? ⟨R, 0, none⟩ = false)
    (hd : w.cell? ⟨C, 55, none⟩ = some (.string s)) (hn1 : 2 ≤ n) (hn2 : n ≤ 5) (hc : w.cell? ⟨C, 43, none⟩ = some x0) (hg : w.cell? ⟨C, 44, none⟩ = some (.pointer (some ⟨G, 0, none⟩))) (he : w.cell? ⟨C, 45, none⟩ = some (.pointer none))
    (hsz : w.cell? ⟨G, 1, none⟩ = some (.int .i64 n)) (hl : w.cell? ⟨G, 6, none⟩ = some (.int .i64 0)) (hr : w.cell? ⟨G, 7, none⟩ = some (.int .i64 0))
    (f0 : w.frozen? ⟨C, 43, none⟩ = false) (f1 : w.frozen? ⟨C, 44, none⟩ = false) (f2 : w.frozen? ⟨G, 1, none⟩ = false) :
    Calls Ybad.prog 5 #[.pointer (some ⟨R, 0, none⟩), .pointer (some ⟨C, 0, none⟩)] w fun e w' => e = .returned .nilIface ∧
      w' = ((((w.setCell ⟨R, 0, none⟩ (.int .i32 1)).drew.setCell ⟨G, 1, none⟩ (.int .i64 (n - 1))).setCell ⟨C, 43, none⟩ (.pointer none)).setCell ⟨C, 44, none⟩ (.pointer none)).setCell ⟨R, 0, none⟩ (.int .i32 0) := by
  have hCR : C ≠ R := fun e => hRC e.symm
  have k : ∀ o, (lockedW w R).cell? ⟨C, o, none⟩ = w.cell? ⟨C, o, none⟩ := fun o => locked_cell w R C o (Or.inl hCR)
  have kg : ∀ o, (lockedW w R).cell? ⟨G, o, none⟩ = w.cell? ⟨G, o, none⟩ := fun o => locked_cell w R G o (Or.inl hGR)
  refine (hand_on R C s w (fun w1 => w1 = (((w.setCell ⟨R, 0, none⟩ (.int .i32 1)).drew.setCell ⟨G, 1, none⟩ (.int .i64 (n - 1))).setCell ⟨C, 43, none⟩ (.pointer none)).setCell ⟨C, 44, none⟩ (.pointer none)) hRC hs hm hz hd
    ((remove_keep R C G x0 n _ hGC hn1 hn2 ((k _).trans hc) ((k _).trans hg) ((k _).trans he) ((kg _).trans hsz) ((kg _).trans hl) ((kg _).trans hr) ((locked_frozen w R _).trans f0) ((locked_frozen w R _).trans f1) ((locked_frozen w R _).trans f2)).mono ?_)).mono ?_
  · rintro e w' ⟨rfl, rfl⟩
    refine ⟨rfl, ?_, ?_, rfl⟩
    · exact other_cell (other_cell (other_cell (locked_lock w R hm) (addr_ne (Or.inl hGR))) (addr_ne (Or.inl hCR))) (addr_ne (Or.inl hCR))
    · simp [locked_frozen, hz]
  · rintro e w' ⟨rfl, w1, rfl, rfl⟩
    exact ⟨rfl, rfl⟩

/-- It is the last of a named group. -/
theorem hand_last {H : Type} (Rd : Value → Option (DataW H × List MemPlace)) (R C G M N : Nat) (s : ByteArray) (x0 : Value) (nm : ByteArray) (D : DataW H) (w : World) (hRC : R ≠ C) (hGC : G ≠ C) (hGR : G ≠ R) (hMC : M ≠ C) (hMG : M ≠ G) (hMR : M ≠ R)
    (hs : s.toList.isEmpty = true) (hm : w.cell? ⟨R, 0, none⟩ = some (.int .i32 0)) (hz : w.frozen? ⟨R, 0, none⟩ = false)
    (hd : w.cell? ⟨C, 55, none⟩ = some (.string s)) (hne : nm.toList.isEmpty = false) (hsz : nm.size ≤ maxLen) (hc : w.cell? ⟨C, 43, none⟩ = some x0) (hg : w.cell? ⟨C, 44, none⟩ = some (.pointer (some ⟨G, 0, none⟩))) (he : w.cell? ⟨C, 45, none⟩ = some (.pointer none))
    (hnm : w.cell? ⟨G, 0, none⟩ = some (.string nm)) (hs1 : w.cell? ⟨G, 1, none⟩ = some (.int .i64 1)) (hl : w.cell? ⟨G, 6, none⟩ = some (.int .i64 0)) (hr : w.cell? ⟨G, 7, none⟩ = some (.int .i64 0))
    (hmap : w.cell? ⟨R, 3, none⟩ = some (.map (some M))) (hown : w.ownsMap Ybad.prog 9 Rd M N D)
    (f0 : w.frozen? ⟨C, 43, none⟩ = false) (f1 : w.frozen? ⟨C, 44, none⟩ = false) (f2 : w.frozen? ⟨G, 1, none⟩ = false) :
    Calls Ybad.prog 5 #[.pointer (some ⟨R, 0, none⟩), .pointer (some ⟨C, 0, none⟩)] w fun e w' => e = .returned .nilIface ∧
      ∃ w1, w1.ownsMap Ybad.prog 9 Rd M N (D.del (.string nm.data.toList)) ∧ ((lockedW w R).setCell ⟨G, 1, none⟩ (.int .i64 0)).drew.mapTurned w1 M ∧
        w' = ((w1.setCell ⟨C, 43, none⟩ (.pointer none)).setCell ⟨C, 44, none⟩ (.pointer none)).setCell ⟨R, 0, none⟩ (.int .i32 0) := by
  have hCR : C ≠ R := fun e => hRC e.symm
  have k : ∀ o, (lockedW w R).cell? ⟨C, o, none⟩ = w.cell? ⟨C, o, none⟩ := fun o => locked_cell w R C o (Or.inl hCR)
  have kg : ∀ o, (lockedW w R).cell? ⟨G, o, none⟩ = w.cell? ⟨G, o, none⟩ := fun o => locked_cell w R G o (Or.inl hGR)
  have hownL : (lockedW w R).ownsMap Ybad.prog 9 Rd M N D := (hown.setCell (a := ⟨R, 0, none⟩) hMR (.int .i32 1)).drew
  refine (hand_on R C s w (fun w2 => ∃ w1, w1.ownsMap Ybad.prog 9 Rd M N (D.del (.string nm.data.toList)) ∧ ((lockedW w R).setCell ⟨G, 1, none⟩ (.int .i64 0)).drew.mapTurned w1 M ∧ w2 = (w1.setCell ⟨C, 43, none⟩ (.pointer none)).setCell ⟨C, 44, none⟩ (.pointer none)) hRC hs hm hz hd
    ((remove_last Rd R C G M N x0 nm D _ hGC hMC hMG (fun e => hGR e.symm) hne hsz ((k _).trans hc) ((k _).trans hg) ((k _).trans he) ((kg _).trans hnm) ((kg _).trans hs1) ((kg _).trans hl) ((kg _).trans hr) ((locked_cell w R R 3 (Or.inr (by decide))).trans hmap) hownL
      ((locked_frozen w R _).trans f0) ((locked_frozen w R _).trans f1) ((locked_frozen w R _).trans f2)).mono ?_)).mono ?_
  · rintro e w' ⟨rfl, w1, h1, h2, rfl⟩
    have hRM : R ≠ M := fun e => hMR e.symm
    have ht := turned_cell h2 ⟨R, 0, none⟩ hRM
    refine ⟨rfl, ?_, ?_, w1, h1, h2, rfl⟩
    · refine other_cell (other_cell (ht.1.trans ?_) (addr_ne (Or.inl hCR))) (addr_ne (Or.inl hCR))
      exact other_cell (w := lockedW w R) (locked_lock w R hm) (addr_ne (Or.inl hGR))
    · have := ht.2
      simp [locked_frozen, hz] at this
      simp [this]
  · rintro e w' ⟨rfl, w2, ⟨w1, h1, h2, rfl⟩, rfl⟩
    exact ⟨rfl, w1, h1, h2, rfl⟩
end Go.Proofs.YbulkdcoiDoor
