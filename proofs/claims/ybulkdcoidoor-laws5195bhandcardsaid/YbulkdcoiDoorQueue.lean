/-
  THE WALKS: 'ranking.remove' of a group that is not ranked; 'wayQueue.rerank' of a group with nobody that could go; 'wayQueue.remove'.
-/
import Derived.Test.YbulkdcoiDoorTry
import Derived.BigQuiet
import Derived.Deep.RegionWith
import Derived.Maps.OwnSet
namespace Go.Proofs.YbulkdcoiDoor
open Go.RowKit Go.MuLone

/-- The call of the method 'at' (its name taken off the dump's own table). -/
theorem at_method (a : Addr) (w : World) : (method 277 41 (.pointer (some a)) ((Ybad.t41.methods.map (·.name)).getD 0 "")).run Ybad.prog w = .ok (60, .pointer (some a)) w := by kernel_rfl

set_option maxRecDepth 100000 in
set_option maxHeartbeats 800000 in
theorem rank_out (q : Addr) (G o : Nat) (w : World) (hr : w.cell? ⟨G, o + 7, none⟩ = some (.int .i64 0)) :
    Calls Ybad.prog 26 #[.pointer (some q), .pointer (some ⟨G, o, none⟩)] w fun e w' => e = .returned (.tuple #[]) ∧ w' = w := by
  have hm := at_method
  simp [Ybad.t41] at hm
  go_enter Ybad.func26, Ybad.ntmps26
  go_wp2
  go_end0
  exact ⟨rfl, rfl⟩

set_option maxRecDepth 100000 in
set_option maxHeartbeats 800000 in
theorem rerank_none (R qo G o : Nat) (w : World) (hl : w.cell? ⟨G, o + 6, none⟩ = some (.int .i64 0)) (hr : w.cell? ⟨G, o + 7, none⟩ = some (.int .i64 0)) :
    Calls Ybad.prog 15 #[.pointer (some ⟨R, qo, none⟩), .pointer (some ⟨G, o, none⟩)] w fun e w' => e = .returned (.tuple #[]) ∧ w' = w := by
  go_enter Ybad.func15, Ybad.ntmps15
  go_wp2_with (first | (go_at_call 26; refine (rank_out _ G o w hr).mono ?_; rintro e w' ⟨rfl, rfl⟩) | go_in)
  refine bodyPost_ret (results_none rfl _ _ _) rfl ?_
  exact ⟨rfl, rfl⟩

set_option maxRecDepth 100000 in
set_option maxHeartbeats 800000 in
/-- 'remove' of a place that the queue does not hold. -/
theorem remove_nil (R C : Nat) (w : World) (hg : w.cell? ⟨C, 44, none⟩ = some (.pointer none)) :
    Calls Ybad.prog 10 #[.pointer (some ⟨R, 3, none⟩), .pointer (some ⟨C, 43, none⟩)] w fun e w' => e = .returned (.tuple #[]) ∧ w' = w := by
  go_enter Ybad.func10, Ybad.ntmps10
  go_wp2
  refine bodyPost_ret (results_none rfl _ _ _) rfl ?_
  exact ⟨rfl, rfl⟩

set_option maxRecDepth 100000 in
set_option maxHeartbeats 1600000 in
/-- 'remove' of a place in a group of its own (its name is empty). -/
theorem remove_own (R C : Nat) (x0 : Value) (n : Int) (w : World) (hn1 : 1 ≤ n) (hn2 : n ≤ 5) (hc : w.cell? ⟨C, 43, none⟩ = some x0) (hg : w.cell? ⟨C, 44, none⟩ = some (.pointer (some ⟨C, 47, none⟩))) (he : w.cell? ⟨C, 45, none⟩ = some (.pointer none))
    (hnm : w.cell? ⟨C, 47, none⟩ = some (.string { data := #[] })) (hs : w.cell? ⟨C, 48, none⟩ = some (.int .i64 n)) (hl : w.cell? ⟨C, 53, none⟩ = some (.int .i64 0)) (hr : w.cell? ⟨C, 54, none⟩ = some (.int .i64 0))
    (f0 : w.frozen? ⟨C, 43, none⟩ = false) (f1 : w.frozen? ⟨C, 44, none⟩ = false) (f2 : w.frozen? ⟨C, 48, none⟩ = false) :
    Calls Ybad.prog 10 #[.pointer (some ⟨R, 3, none⟩), .pointer (some ⟨C, 43, none⟩)] w fun e w' => e = .returned (.tuple #[]) ∧
      w' = ((w.setCell ⟨C, 48, none⟩ (.int .i64 (n - 1))).setCell ⟨C, 43, none⟩ (.pointer none)).setCell ⟨C, 44, none⟩ (.pointer none) := by
  have hcon := rerank_none R 3 C 47 (w.setCell ⟨C, 48, none⟩ (.int .i64 (n - 1))) (by simp [World.cell?_setCell_other, hl]) (by simp [World.cell?_setCell_other, hr])
  by_cases h1 : n = 1
  · subst h1
    go_enter Ybad.func10, Ybad.ntmps10
    go_wp2_with fail
    refine hcon.mono ?_
    rintro e w' ⟨rfl, rfl⟩
    clear hcon
    go_wp2
    go_end0
    exact ⟨rfl, rfl⟩
  · have hn0 : ((n - 1 : Int) == 0) = false := by simp; omega
    go_enter Ybad.func10, Ybad.ntmps10
    go_wp2_with fail
    refine hcon.mono ?_
    rintro e w' ⟨rfl, rfl⟩
    clear hcon
    go_wp2
    go_end0
    exact ⟨rfl, rfl⟩

set_option maxRecDepth 100000 in
set_option maxHeartbeats 1600000 in
/-- 'remove' of a place in a named group in a block of its own, others in it still. -/
theorem remove_keep (R C G : Nat) (x0 : Value) (n : Int) (w : World) (hGC : G ≠ C) (hn1 : 2 ≤ n) (hn2 : n ≤ 5) (hc : w.cell? ⟨C, 43, none⟩ = some x0) (hg : w.cell? ⟨C, 44, none⟩ = some (.pointer (some ⟨G, 0, none⟩))) (he : w.cell? ⟨C, 45, none⟩ = some (.pointer none))
    (hs : w.cell? ⟨G, 1, none⟩ = some (.int .i64 n)) (hl : w.cell? ⟨G, 6, none⟩ = some (.int .i64 0)) (hr : w.cell? ⟨G, 7, none⟩ = some (.int .i64 0))
    (f0 : w.frozen? ⟨C, 43, none⟩ = false) (f1 : w.frozen? ⟨C, 44, none⟩ = false) (f2 : w.frozen? ⟨G, 1, none⟩ = false) :
    Calls Ybad.prog 10 #[.pointer (some ⟨R, 3, none⟩), .pointer (some ⟨C, 43, none⟩)] w fun e w' => e = .returned (.tuple #[]) ∧
      w' = ((w.setCell ⟨G, 1, none⟩ (.int .i64 (n - 1))).setCell ⟨C, 43, none⟩ (.pointer none)).setCell ⟨C, 44, none⟩ (.pointer none) := by
  have hcon := rerank_none R 3 G 0 (w.setCell ⟨G, 1, none⟩ (.int .i64 (n - 1))) (by simp [World.cell?_setCell_other, hl]) (by simp [World.cell?_setCell_other, hr])
  have hCG : C ≠ G := fun e => hGC e.symm
  have hn0 : ((n - 1 : Int) == 0) = false := by simp; omega
  go_enter Ybad.func10, Ybad.ntmps10
  go_wp2_with fail
  refine hcon.mono ?_
  rintro e w' ⟨rfl, rfl⟩
  clear hcon
  go_wp2
  all_goals go_end0
  all_goals exact ⟨rfl, rfl⟩

theorem turned_cell {w w' : World} {M : Nat} (h : w.mapTurned w' M) (a : Addr) (ha : a.block ≠ M) : w'.cell? a = w.cell? a ∧ w'.frozen? a = w.frozen? a := by
  obtain ⟨es, clock, es', clock', hb, rfl⟩ := h
  have e := ChangeMaps.heap_setBlock_other hb (.map es' clock') ha
  exact ⟨World.cell?_of_block e, World.frozen?_of_block e⟩
theorem turned_size {w w' : World} {M : Nat} (h : w.mapTurned w' M) : w'.heap.size = w.heap.size := by
  obtain ⟨es, clock, es', clock', hb, rfl⟩ := h
  simp [ChangeMaps.setBlock]

set_option maxRecDepth 100000 in
set_option maxHeartbeats 1600000 in
/-- 'remove' of the last place in a named group: the group is dropped from the map. -/
theorem remove_last {H : Type} (Rd : Value → Option (DataW H × List MemPlace)) (R C G M N : Nat) (x0 : Value) (nm : ByteArray) (D : DataW H) (w : World) (hGC : G ≠ C) (hMC : M ≠ C) (hMG : M ≠ G) (hRG : R ≠ G)
    (hne : nm.toList.isEmpty = false) (hsz : nm.size ≤ maxLen) (hc : w.cell? ⟨C, 43, none⟩ = some x0) (hg : w.cell? ⟨C, 44, none⟩ = some (.pointer (some ⟨G, 0, none⟩))) (he : w.cell? ⟨C, 45, none⟩ = some (.pointer none))
    (hnm : w.cell? ⟨G, 0, none⟩ = some (.string nm)) (hs : w.cell? ⟨G, 1, none⟩ = some (.int .i64 1)) (hl : w.cell? ⟨G, 6, none⟩ = some (.int .i64 0)) (hr : w.cell? ⟨G, 7, none⟩ = some (.int .i64 0))
    (hm : w.cell? ⟨R, 3, none⟩ = some (.map (some M))) (hown : w.ownsMap Ybad.prog 9 Rd M N D)
    (f0 : w.frozen? ⟨C, 43, none⟩ = false) (f1 : w.frozen? ⟨C, 44, none⟩ = false) (f2 : w.frozen? ⟨G, 1, none⟩ = false) :
    Calls Ybad.prog 10 #[.pointer (some ⟨R, 3, none⟩), .pointer (some ⟨C, 43, none⟩)] w fun e w' => e = .returned (.tuple #[]) ∧
      ∃ w1, w1.ownsMap Ybad.prog 9 Rd M N (D.del (.string nm.data.toList)) ∧ (w.setCell ⟨G, 1, none⟩ (.int .i64 0)).drew.mapTurned w1 M ∧ w' = (w1.setCell ⟨C, 43, none⟩ (.pointer none)).setCell ⟨C, 44, none⟩ (.pointer none) := by
  have hcon := rerank_none R 3 G 0 (w.setCell ⟨G, 1, none⟩ (.int .i64 0)) (by simp [World.cell?_setCell_other, hl]) (by simp [World.cell?_setCell_other, hr])
  have hCG : C ≠ G := fun e => hGC e.symm
  have hGR : G ≠ R := fun e => hRG e.symm
  obtain ⟨w1, hrun, hown1, hturn⟩ := (hown.setCell (a := ⟨G, 1, none⟩) hMG (.int .i64 0)).drew.drop (Maps.string_keyed Ybad.underlying9) Ybad.underlying62 (key := .string nm) (kl := .string nm.data.toList) (by simp [keyOf, mapKey, Ybad.underlying9, hsz]) 0
  go_enter Ybad.func10, Ybad.ntmps10
  go_wp2_with fail
  refine hcon.mono ?_
  rintro e w' ⟨rfl, rfl⟩
  clear hcon
  go_wp2
  go_region
  have k0 := (turned_cell hturn ⟨C, 43, none⟩ (fun e => hMC e.symm)).1
  have k1 := (turned_cell hturn ⟨C, 44, none⟩ (fun e => hMC e.symm)).1
  have z0 := (turned_cell hturn ⟨C, 43, none⟩ (fun e => hMC e.symm)).2
  have z1 := (turned_cell hturn ⟨C, 44, none⟩ (fun e => hMC e.symm)).2
  simp [World.cell?_setCell_other, hc, hg, f0, f1] at k0 k1 z0 z1
  clear hrun
  go_wp2
  go_end0
  exact ⟨rfl, _, hown1, hturn, rfl⟩
end Go.Proofs.YbulkdcoiDoor
