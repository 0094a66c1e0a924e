/-
  WHAT THE LAW's LAST LOOP READS OF CONNECTION j.
-/
import Derived.Test.YbulkdcoiLI
import Derived.Test.YbulkdcoiEq
namespace Go.Proofs.Ybulkdcoi
open Go.RowKit
set_option linter.unusedVariables false

theorem hdv_slice {W : World} {M : Cel} {e : TypeId} {hd : Option (Nat × Nat)} {n : Nat} (h : Rw W M e hd n) : ∃ a c, hdv hd n = .slice a n c ∧ ∀ b, arrB hd b → a = some ⟨b, 0, none⟩ := by
  rcases hd with _ | ⟨A, cap⟩
  · have : n = 0 := h
    subst this
    exact ⟨none, 0, rfl, fun b ⟨c, hc⟩ => by cases hc⟩
  · exact ⟨some ⟨A, 0, none⟩, cap, rfl, fun b hb => by rw [arrB_some.1 hb]⟩

structure Fin4 (W : World) (S n : Nat) (a10 a11 a12 a13 : Option Addr) (ng m1 j cb id gb go eb sz fi cf ef wb wo wt fb : Nat) (kp : Bool) (nm : ByteArray) (b10 b11 b12 b13 : Nat) : Prop where
  hid : id < ng
  hfi : fi < n
  hsz : 1 ≤ sz ∧ sz ≤ n
  f7 : W.cell? ⟨S + 2, j, none⟩ = some (ptr cb 0)
  f8 : W.cell? ⟨S + 3, j, none⟩ = some (.int .i64 id)
  f9 : W.cell? ⟨S + 4, j, none⟩ = some (.bool (fi == j))
  c8 : W.cell? ⟨cb, 8, none⟩ = some (ptr cb 0)
  c9 : W.cell? ⟨cb, 9, none⟩ = some (ptr gb go)
  c10 : W.cell? ⟨cb, 10, none⟩ = some (ptr eb 0)
  c11 : W.cell? ⟨cb, 11, none⟩ = some (.int .u64 j)
  e3 : W.cell? ⟨eb, 3, none⟩ = some (.iface 131 (ptr cb 8))
  a10 : a10 = some ⟨b10, 0, none⟩
  a11 : a11 = some ⟨b11, 0, none⟩
  a12 : a12 = some ⟨b12, 0, none⟩
  a13 : a13 = some ⟨b13, 0, none⟩
  r10 : W.cell? ⟨b10, id, none⟩ = some (.string nm)
  r11 : W.cell? ⟨b11, id, none⟩ = some (.int .i64 sz)
  r12 : W.cell? ⟨b12, id, none⟩ = some (.bool kp)
  r13 : W.cell? ⟨b13, id, none⟩ = some (.int .i64 fi)
  own : nm = ⟨#[]⟩ → gb = cb ∧ go = 12
  named : ¬ nm = ⟨#[]⟩ → nm.toList.isEmpty = false ∧ go = 0 ∧ ∀ q, (Instr.lookup 118 (.map (some m1)) (.string nm) false).run Yba.prog (W.drewN q) = .ok (ptr gb 0) (W.drewN q)
  p3 : W.cell? ⟨S + 1, 3, none⟩ = some (.map (some m1))
  g0 : W.cell? ⟨gb, go, none⟩ = some (.string nm)
  g1 : W.cell? ⟨gb, go + 1, none⟩ = some (ptr ef 0)
  g5 : W.cell? ⟨gb, go + 1 + 4, none⟩ = some (.int .i64 sz)
  g6 : W.cell? ⟨gb, go + 6, none⟩ = some (.bool kp)
  ef3 : W.cell? ⟨ef, 3, none⟩ = some (.iface 131 (ptr cf 8))
  cf8 : W.cell? ⟨cf, 8, none⟩ = some (ptr cf 0)
  f7f : W.cell? ⟨S + 2, fi, none⟩ = some (ptr cf 0)
  i20 : W.cell? ⟨cb, 20, none⟩ = some (ptr cb 0)
  i21 : W.cell? ⟨cb, 21, none⟩ = some (ptr wb wo)
  i22 : W.cell? ⟨cb, 22, none⟩ = some (if kp && fi == j then .pointer none else ptr fb 0)
  i23 : W.cell? ⟨cb, 23, none⟩ = some (.int .u64 j)
  w1 : W.cell? ⟨wb, wo + 1, none⟩ = some (.int .i64 sz)
  w6 : W.cell? ⟨wb, wo + 2 + 4, none⟩ = some (.int .i64 wt)
  hwt : wt = sz - (if kp then 1 else 0)

theorem LS.fin {w0 : World} {n K : Nat} {h10 h11 h12 h13 : Option (Nat × Nat)} {g : Gst} {W : World} {M : Cel} {a10 a11 a12 a13 : Option Addr} (h : LS w0 n K (w0.heap.size + 2) (w0.heap.size + 3) (w0.heap.size + 4) h10 h11 h12 h13 g n W M) (hP : g.s.P = w0.heap.size + 1)
    (p10 : ∀ b, arrB h10 b → a10 = some ⟨b, 0, none⟩) (p11 : ∀ b, arrB h11 b → a11 = some ⟨b, 0, none⟩) (p12 : ∀ b, arrB h12 b → a12 = some ⟨b, 0, none⟩) (p13 : ∀ b, arrB h13 b → a13 = some ⟨b, 0, none⟩) {j : Nat} (hj : j < n) :
    ∃ cb id gb go eb sz fi cf ef wb wo wt fb kp nm b10 b11 b12 b13, Fin4 W w0.heap.size n a10 a11 a12 a13 g.ng g.m1 j cb id gb go eb sz fi cf ef wb wo wt fb kp nm b10 b11 b12 b13 := by
  have hA := h.fs.agr
  have R := h.rw_
  have hid := h.fs.sh.gl j hj
  have hfi := h.fs.sh.fi_ _ hid
  obtain ⟨b10, hb10⟩ := R.w10.some hid
  obtain ⟨b11, hb11⟩ := R.w11.some hid
  obtain ⟨b12, hb12⟩ := R.w12.some hid
  obtain ⟨b13, hb13⟩ := R.w13.some hid
  have r7 := (hA _ _ _ (R.r7 j hj)).1
  have r8 := (hA _ _ _ (R.r8 j hj)).1
  have r9 := (hA _ _ _ (R.r9 j hj)).1
  have r7f := (hA _ _ _ (R.r7 _ hfi.1)).1
  rw [if_pos hj] at r7
  rw [if_pos hj] at r8
  rw [if_pos hfi.1] at r7f
  simp [hj] at r9
  have i22 := (hA _ _ _ (h.fs.ws.g.c22 j hj)).1
  refine ⟨g.s.C j, g.s.gid j, (g.ag (g.s.gid j)).1, (g.ag (g.s.gid j)).2, g.E j, g.s.sz (g.s.gid j), g.s.fi (g.s.gid j), g.s.C (g.s.fi (g.s.gid j)), g.E (g.s.fi (g.s.gid j)), (g.wg (g.s.gid j)).1, (g.wg (g.s.gid j)).2, want g.s (g.s.gid j), g.F j, g.s.kp (g.s.gid j), g.nm (g.s.gid j), b10, b11, b12, b13,
    hid, hfi.1, h.fs.sh.sz1 _ hid, r7, r8, ?_, (hA _ _ _ (h.fs.ah.g.c8 j hj)).1, (hA _ _ _ (h.fs.ah.g.c9 j hj)).1, (hA _ _ _ (h.fs.ah.g.c10 j hj)).1, (hA _ _ _ (h.fs.ah.g.c11 j hj)).1, (hA _ _ _ (h.fs.ah.g.e3 j hj)).1, p10 _ hb10, p11 _ hb11, p12 _ hb12, p13 _ hb13, (hA _ _ _ (R.e10 _ _ hb10 hid)).1, (hA _ _ _ (R.e11 _ _ hb11 hid)).1, (hA _ _ _ (R.e12 _ _ hb12 hid)).1, (hA _ _ _ (R.e13 _ _ hb13 hid)).1, fun hn => ?_, fun hn => ?_, ?_, (hA _ _ _ (h.fs.ah.g.g0 _ hid)).1, (hA _ _ _ (h.fs.ah.g.g1 _ hid)).1, (hA _ _ _ (h.fs.ah.g.g5 _ hid)).1, (hA _ _ _ (h.fs.ah.g.g6 _ hid)).1, (hA _ _ _ (h.fs.ah.g.e3 _ hfi.1)).1, (hA _ _ _ (h.fs.ah.g.c8 _ hfi.1)).1, r7f,
    (hA _ _ _ (h.fs.ws.g.c20 j hj)).1, (hA _ _ _ (h.fs.ws.g.c21 j hj)).1, i22, (hA _ _ _ (h.fs.ws.g.c23 j hj)).1, (hA _ _ _ (h.fs.ws.g.g1 _ hid)).1, (hA _ _ _ (h.fs.ws.g.g6 _ hid)).1, rfl⟩
  · rw [r9]
  · have hf := h.c5 j hj hn
    rw [h.fs.n4 _ hid hn, hf]
    exact ⟨rfl, rfl⟩
  · obtain ⟨a1, a2, a3⟩ := h.fs.n1 _ hid hn
    have s1 : (g.nm (g.s.gid j)).toList.isEmpty = false := by
      rw [ByteArray.toList_eq]
      have := ne_toList hn
      simpa using this
    have s2 := h.c6 _ hid
    refine ⟨s1, a3, fun q => ?_⟩
    have hm : Mp (W.drewN q) g.m1 g.nn g.f1 := h.fs.ah.mp.block rfl
    have := hm.look Yba.underlying118 (Yba.zeroValue86 _) _ s2
    rw [a1] at this
    exact this
  · rw [← hP]
    exact (hA _ _ _ h.fs.ah.p3).1

theorem Fin4.drewN {W : World} {S n : Nat} {a10 a11 a12 a13 : Option Addr} {ng m1 j cb id gb go eb sz fi cf ef wb wo wt fb : Nat} {kp : Bool} {nm : ByteArray} {b10 b11 b12 b13 : Nat} (h : Fin4 W S n a10 a11 a12 a13 ng m1 j cb id gb go eb sz fi cf ef wb wo wt fb kp nm b10 b11 b12 b13) (q : Nat) : Fin4 (W.drewN q) S n a10 a11 a12 a13 ng m1 j cb id gb go eb sz fi cf ef wb wo wt fb kp nm b10 b11 b12 b13 :=
  ⟨h.hid, h.hfi, h.hsz, h.f7, h.f8, h.f9, h.c8, h.c9, h.c10, h.c11, h.e3, h.a10, h.a11, h.a12, h.a13, h.r10, h.r11, h.r12, h.r13, h.own, fun hn => ⟨(h.named hn).1, (h.named hn).2.1, fun q' => by rw [World.drewN_drewN]; exact (h.named hn).2.2 (q + q')⟩, h.p3, h.g0, h.g1, h.g5, h.g6, h.ef3, h.cf8, h.f7f, h.i20, h.i21, h.i22, h.i23, h.w1, h.w6, h.hwt⟩
end Go.Proofs.Ybulkdcoi
