/-
  zzs5195amodel BY ITS CONTRACT: it computes 'kz'.
-/
import Derived.Test.YbulkdcoiReq
namespace Go.Proofs.Ybulkdcoi
open Go.RowKit Go.Sort Go.Shelf Go.Lib
set_option linter.unusedVariables false
theorem info4 : (Yba.prog.info? 4).map (fun i => (i.zero, i.size, i.bytes)) = some (some (.bool false), 1, 1) := by kernel_rfl

/-- The marks: place i is listed. -/
def lst (N : Nat) (l : List Nat) : List Value := (List.range N).map fun i => Value.bool (l.contains i)
theorem lst_len (N : Nat) (l : List Nat) : (lst N l).length = N := by simp [lst]
theorem lst_get (N : Nat) (l : List Nat) (i : Nat) (h : i < N) : (lst N l)[i]? = some (.bool (l.contains i)) := by simp [lst, h]
theorem lst_start (N : Nat) : (madeCells (Value.bool false).cells (N * 1)).toList = lst N [] := by
  have e : (Value.bool false).cells = #[Value.bool false] := rfl
  rw [e, toList_madeCells_one, Nat.mul_one]
  refine List.ext_getElem (by simp [lst]) fun i h1 h2 => ?_
  simp [lst]
theorem lst_set (N : Nat) (l : List Nat) (v : Nat) : (lst N l).set v (.bool true) = lst N (l ++ [v]) := by
  refine List.ext_getElem (by simp [lst]) fun i h1 h2 => ?_
  rw [List.getElem_set]
  by_cases h : v = i
  · subst h; simp [lst]
  · rw [if_neg h]
    have : ¬ i = v := fun e => h e.symm
    simp [lst, this]

theorem kz_succ (i : Nat) (S : Nat → Int) (p : Int) (vs : List Nat) : kz (i + 1) S p vs = kz i S p vs ++ (if vs.contains i && decide (S i = p) then [i] else []) := by
  unfold kz
  rw [List.range_succ, List.filter_append]
  congr 1
  simp [List.filter_cons]
theorem kz_bound (i : Nat) (S : Nat → Int) (p : Int) (vs : List Nat) : (kz i S p vs).length ≤ i := by
  unfold kz
  exact Nat.le_trans (List.length_filter_le _ _) (by simp)

theorem ownsRow_base {w : World} {B B' : Nat} {e : TypeId} {size : Nat} {v : Value} {n : Nat} {xs : List Value} (h : w.ownsRow B e size v n xs) (hb : B' ≤ B) : w.ownsRow B' e size v n xs :=
  ⟨h.1, h.2.elim Or.inl fun ⟨g, cap, cur, h1, h2, h3⟩ => Or.inr ⟨g, cap, cur, h1, Nat.le_trans hb h2, h3⟩⟩

abbrev encN (K : List Nat) : List Value := K.map fun (v : Nat) => Value.int .i32 ((v : Nat) : Int)

theorem model_step {w wr w2 : World} {N i : Nat} {vs : List Nat} {vo v' : Value} {K : List Nat} (hmark : wr.ownsRow w.heap.size 4 1 (.slice (some ⟨w.heap.size, 0, none⟩) N N) N (lst N vs)) (hbel : Below w.heap.size w wr) (hB2 : w.heap.size + 1 ≤ wr.heap.size)
    (hout : wr.ownsRow (w.heap.size + 1) 21 1 vo K.length (encN K)) (o : Obj) (hg : (wr.alloc o).grownBy w2 vo.ownBlock) (hown2 : w2.ownsRow (w.heap.size + 1) 21 1 v' (K.length + 1) (encN K ++ [Value.int .i32 ((i : Nat) : Int)])) :
    w2.ownsRow w.heap.size 4 1 (.slice (some ⟨w.heap.size, 0, none⟩) N N) N (lst N vs) ∧ Below w.heap.size w w2 ∧ w.heap.size + 1 ≤ w2.heap.size ∧ w2.ownsRow (w.heap.size + 1) 21 1 v' (K ++ [i]).length (encN (K ++ [i])) := by
  have hs : wr.heap.size < (wr.alloc o).heap.size := by simp
  refine ⟨(hmark.alloc o).kept hg (Or.inr ?_), (hbel.alloc (by omega) o).grown hg (by omega) (fun k hk => ?_), Nat.le_trans hB2 (Nat.le_trans (Nat.le_of_lt hs) hg.size), ?_⟩
  · intro e
    have := (hout.lt w.heap.size (by rw [← e]; rfl)).1
    omega
  · have := (hout.lt k hk).1
    omega
  · simpa [encN] using hown2

set_option maxRecDepth 100000 in
set_option maxHeartbeats 1000000 in
theorem model_walk (a0 : Option Addr) (b off N cap0 OB c p : Nat) (z : Nat → Int) (vs : List Nat) (w : World) (hN : N ≤ 1024) (hp : p < 3) (hvs : vs.length ≤ 1024) (hv : ∀ v ∈ vs, v < N)
    (hs : 0 < N → a0 = some ⟨b, off, none⟩) (hc : ∀ i, i < N → w.cell? ⟨b, off + i, none⟩ = some (.int .i8 (z i))) (hz : ∀ i, -128 ≤ z i ∧ z i ≤ 127)
    (ho : ∀ j, j < vs.length → w.cell? ⟨OB, j, none⟩ = some (.int .i32 ((vs.getD j 0 : Nat) : Int))) :
    Calls Yba.prog 8 #[.slice a0 N cap0, .slice (some ⟨OB, 0, none⟩) vs.length c, .int .i32 p] w fun e w' => ∃ v, e = .returned v ∧ w'.ownsRow w.heap.size 21 1 v (kz N (fun i => (z i).tmod 4) p vs).length (encN (kz N (fun i => (z i).tmod 4) p vs)) ∧ Below w.heap.size w w' := by
  obtain ⟨i0, hi, hz0, hz1, hz2⟩ := info_parts info21
  obtain ⟨i4, hi4, hy0, hy1, hy2⟩ := info_parts info4
  have HO : Hid (∀ j, j < vs.length → w.cell? ⟨OB, j, none⟩ = some (.int .i32 ((vs.getD j 0 : Nat) : Int))) := ho
  have HC : Hid (∀ i, i < N → w.cell? ⟨b, off + i, none⟩ = some (.int .i8 (z i))) := hc
  have HS : Hid (0 < N → a0 = some ⟨b, off, none⟩) := hs
  have HV : Hid (∀ v ∈ vs, v < N) := hv
  have HZ : Hid (∀ i, -128 ≤ z i ∧ z i ≤ 127) := hz
  clear ho hc hs hv hz
  go_enter Yba.func8, Yba.ntmps8
  go_wp2_with (at_make; refine wpList_make_full _ rfl _ _ 78 rfl w.heap.size 4 i4 (.bool false) 1 Yba.underlying78 hi4 hy0 hy1 _ _ _ _ N rfl rfl rfl rfl (by rw [hy2]; omega) (by unfold maxLen; omega) (Nat.le_refl _) ?_; intro w1 hown hgrow)
  rw [lst_start] at hown
  have hbel : Below w.heap.size w w1 := (Below.refl _ w).grown hgrow (Nat.le_refl _) (fun k hk => by cases hk)
  clear hgrow
  have HST : Hid (w1.ownsRow w.heap.size 4 1 (.slice (some ⟨w.heap.size, 0, none⟩) N N) N (lst N []) ∧ Below w.heap.size w w1) := ⟨hown, hbel⟩
  clear hown hbel
  go_loopw [17] (fun vj wr => ∃ j : Nat, vj = .int .i64 j ∧ j ≤ vs.length ∧ wr.ownsRow w.heap.size 4 1 (.slice (some ⟨w.heap.size, 0, none⟩) N N) N (lst N (vs.take j)) ∧ Below w.heap.size w wr) (fun vj _ => vs.length - (intOf vj).toNat)
  case atStart => exact ⟨0, rfl, Nat.zero_le _, by simpa using HST.out.1, HST.out.2⟩
  case round =>
    clear HST
    obtain ⟨j, rfl, hj, hown, hbel⟩ := hrel
    by_cases hlt : j < vs.length
    · obtain ⟨v, hve⟩ : ∃ v, v = vs.getD j 0 := ⟨_, rfl⟩
      have hcj : wr.cell? ⟨OB, j, none⟩ = some (.int .i32 (v : Int)) := by
        rw [hve]
        exact (hbel.cell (p := ⟨OB, j, none⟩) (World.block_lt_of_cell? _ _ (HO.out j hlt))).trans (HO.out j hlt)
      have hvN : v < N := by
        rw [hve]
        refine HV.out _ ?_
        simp [List.getD, hlt]
      have hcv : wr.cell? ⟨w.heap.size, v, none⟩ = some (.bool ((vs.take j).contains v)) := by rw [hown.cellAt v (by omega)]; exact lst_get N _ v hvN
      have hfv : wr.frozen? ⟨w.heap.size, v, none⟩ = false := hown.frozenAt v
      have hst := hown.stored v (.bool true)
      rw [lst_set] at hst
      have htk : vs.take (j + 1) = vs.take j ++ [v] := by rw [hve, List.take_add_one]; simp [List.getD, hlt]
      have hrel' : (wr.setCell ⟨w.heap.size, v, none⟩ (.bool true)).ownsRow w.heap.size 4 1 (.slice (some ⟨w.heap.size, 0, none⟩) N N) N (lst N (vs.take (j + 1))) ∧ Below w.heap.size w (wr.setCell ⟨w.heap.size, v, none⟩ (.bool true)) := by
        rw [htk]
        exact ⟨hst.1, hbel.setCell (p := ⟨w.heap.size, v, none⟩) (Nat.le_refl _) _⟩
      have HR : Hid _ := hrel'
      clear hrel' hst htk hown hbel hve
      go_wp2
      go_roundw
      case rel => exact ⟨j + 1, by go_num, hlt, HR.out.1, HR.out.2⟩
      case measure => simp [intOf]; omega
    · have htk : vs.take j = vs := List.take_of_length_le (by omega)
      rw [htk] at hown
      have hB : w.heap.size + 1 ≤ wr.heap.size := by
        have := (hown.lt w.heap.size rfl).2
        omega
      have HW : Hid (wr.ownsRow w.heap.size 4 1 (.slice (some ⟨w.heap.size, 0, none⟩) N N) N (lst N vs) ∧ Below w.heap.size w wr) := ⟨hown, hbel⟩
      clear htk hown hbel
      go_wp2
      go_loopw [10, 11] (fun vo vi wr => ∃ i : Nat, vi = .int .i64 i ∧ i ≤ N ∧ wr.ownsRow w.heap.size 4 1 (.slice (some ⟨w.heap.size, 0, none⟩) N N) N (lst N vs) ∧ Below w.heap.size w wr ∧ w.heap.size + 1 ≤ wr.heap.size ∧
          wr.ownsRow (w.heap.size + 1) 21 1 vo (kz i (fun i => (z i).tmod 4) p vs).length (encN (kz i (fun i => (z i).tmod 4) p vs))) (fun _ vi _ => N - (intOf vi).toNat)
      case atStart => exact ⟨0, rfl, Nat.zero_le _, HW.out.1.alloc _, HW.out.2.alloc (by omega) _, by simp; omega, World.ownsRow_lit wr #[] 0 hB (by decide) rfl⟩
      case round =>
        clear HW
        obtain ⟨i, rfl, hiN, hmark, hbel, hB2, hout⟩ := hrel
        by_cases hlt : i < N
        · obtain rfl := HS.out (by omega)
          have hci : wr.cell? ⟨b, off + i, none⟩ = some (.int .i8 (z i)) := (hbel.cell (p := ⟨b, off + i, none⟩) (World.block_lt_of_cell? _ _ (HC.out i hlt))).trans (HC.out i hlt)
          have hcm : wr.cell? ⟨w.heap.size, i, none⟩ = some (.bool (vs.contains i)) := by rw [hmark.cellAt i (by omega)]; exact lst_get N _ i hlt
          have hzi := HZ.out i
          have hsucc := kz_succ i (fun i => (z i).tmod 4) p vs
          obtain ⟨q, hq⟩ : ∃ q, q = vs.contains i := ⟨_, rfl⟩
          rw [← hq] at hcm hsucc
          clear hq
          have hb0 := kz_bound i (fun i => (z i).tmod 4) p vs
          obtain ⟨x, hx⟩ : ∃ x, x = z i := ⟨_, rfl⟩
          rw [← hx] at hci hzi
          replace hsucc : kz (i + 1) (fun i => (z i).tmod 4) p vs = kz i (fun i => (z i).tmod 4) p vs ++ if (q && decide (x.tmod 4 = (p : Int))) = true then [i] else [] := by rw [hx]; exact hsucc
          clear hx
          have HM : Hid (wr.ownsRow w.heap.size 4 1 (.slice (some ⟨w.heap.size, 0, none⟩) N N) N (lst N vs) ∧ Below w.heap.size w wr) := ⟨hmark, hbel⟩
          cases q
          · have hk : kz (i + 1) (fun i => (z i).tmod 4) p vs = kz i (fun i => (z i).tmod 4) p vs := by rw [hsucc]; simp
            have HR : Hid (wr.ownsRow (w.heap.size + 1) 21 1 u10 (kz (i + 1) (fun i => (z i).tmod 4) p vs).length (encN (kz (i + 1) (fun i => (z i).tmod 4) p vs))) := by
              show wr.ownsRow _ _ _ _ _ _
              rw [hk]; exact hout
            clear hsucc hk hout hmark hbel
            go_wp2
            go_roundw
            case rel => exact ⟨i + 1, by go_num, hlt, HM.out.1, HM.out.2, hB2, HR.out⟩
            case measure => simp [intOf]; omega
          · by_cases hE : x.tmod 4 = (p : Int)
            · have hk : kz (i + 1) (fun i => (z i).tmod 4) p vs = kz i (fun i => (z i).tmod 4) p vs ++ [i] := by rw [hsucc]; simp [hE]
              clear hsucc
              have HO2 : Hid (wr.ownsRow (w.heap.size + 1) 21 1 u10 (kz i (fun i => (z i).tmod 4) p vs).length (encN (kz i (fun i => (z i).tmod 4) p vs))) := hout
              clear hmark hbel
              have HK : Hid (kz (i + 1) (fun i => (z i).tmod 4) p vs = kz i (fun i => (z i).tmod 4) p vs ++ [i]) := hk
              clear hk
              go_wp2_with (at_builtin; refine wpList_append_own _ rfl (.tmp 46) (.tmp 49) 25 rfl (w.heap.size + 1) 21 i0 (.int .i32 0) 1 4 Yba.underlying25 hi hz0 hz1 hz2 rfl (by decide) _ _ _ rfl (hout.alloc _) ⟨wr.heap.size, 0, none⟩ 1 1 [.int .i32 (i : Int)] rfl rfl ?c1 ?c2 ?c3 ?c4 ?c5 ?_)
              case c2 => first | rfl | (intro u hu; simp at hu; subst hu; rfl)
              case c3 => unfold maxLen; omega
              case c4 => omega
              case c5 => first | (simp; omega) | omega
              · intro v' w2 hown2 hgrow2 _
                have R := model_step HM.out.1 HM.out.2 hB2 HO2.out _ hgrow2 hown2
                rw [← HK.out] at R
                have HR : Hid _ := R
                clear R hown2 hgrow2 hout
                go_wp2
                go_roundw
                case rel => exact ⟨i + 1, by go_num, hlt, HR.out.1, HR.out.2.1, HR.out.2.2.1, HR.out.2.2.2⟩
                case measure => simp [intOf]; omega
            · have hk : kz (i + 1) (fun i => (z i).tmod 4) p vs = kz i (fun i => (z i).tmod 4) p vs := by rw [hsucc]; simp [hE]
              have HR : Hid (wr.ownsRow (w.heap.size + 1) 21 1 u10 (kz (i + 1) (fun i => (z i).tmod 4) p vs).length (encN (kz (i + 1) (fun i => (z i).tmod 4) p vs))) := by
                show wr.ownsRow _ _ _ _ _ _
                rw [hk]; exact hout
              clear hsucc hk hout hmark hbel
              go_wp2
              go_roundw
              case rel => exact ⟨i + 1, by go_num, hlt, HM.out.1, HM.out.2, hB2, HR.out⟩
              case measure => simp [intOf]; omega
        · obtain rfl : i = N := by omega
          have HR : Hid (wr.ownsRow w.heap.size 21 1 u10 (kz i (fun i => (z i).tmod 4) p vs).length (encN (kz i (fun i => (z i).tmod 4) p vs)) ∧ Below w.heap.size w wr) := ⟨ownsRow_base hout (by omega), hbel⟩
          clear hout hmark hbel
          go_wp2
          go_ret
          exact ⟨_, rfl, HR.out.1, HR.out.2⟩
end Go.Proofs.Ybulkdcoi
