/-
  THE WALK OF 'jsonType' at each dynamic type that 'zzs5197abuild' makes: the type switch by closed facts (a fact a dynamic type and a target).
-/
import Derived.Test.YbulkdcpkRows
import Derived.WalkKit
import Derived.WalkSpells
import Derived.WalkLawsBesides
namespace Go.Proofs.Ybulkdcpk
open Go.RowKit

theorem as29_29 (v : Value) (w : World) : (Instr.typeAssert (.iface 29 v) 20 29 true).run Yba.prog w = .ok (.tuple #[v, .bool true]) w := by kernel_rfl
theorem as29_30 (v : Value) (w : World) : (Instr.typeAssert (.iface 29 v) 20 30 true).run Yba.prog w = .ok (.tuple #[.pointer none, .bool false]) w := by kernel_rfl
theorem as29_36 (v : Value) (w : World) : (Instr.typeAssert (.iface 29 v) 20 36 true).run Yba.prog w = .ok (.tuple #[.slice none 0 0, .bool false]) w := by kernel_rfl
theorem as29_9 (v : Value) (w : World) : (Instr.typeAssert (.iface 29 v) 20 9 true).run Yba.prog w = .ok (.tuple #[.string ByteArray.empty, .bool false]) w := by kernel_rfl
theorem as29_37 (v : Value) (w : World) : (Instr.typeAssert (.iface 29 v) 20 37 true).run Yba.prog w = .ok (.tuple #[.string ByteArray.empty, .bool false]) w := by kernel_rfl
theorem as29_22 (v : Value) (w : World) : (Instr.typeAssert (.iface 29 v) 20 22 true).run Yba.prog w = .ok (.tuple #[.float .f64 0, .bool false]) w := by kernel_rfl
theorem as29_4 (v : Value) (w : World) : (Instr.typeAssert (.iface 29 v) 20 4 true).run Yba.prog w = .ok (.tuple #[.bool false, .bool false]) w := by kernel_rfl
theorem as30_29 (v : Value) (w : World) : (Instr.typeAssert (.iface 30 v) 20 29 true).run Yba.prog w = .ok (.tuple #[.map none, .bool false]) w := by kernel_rfl
theorem as30_30 (v : Value) (w : World) : (Instr.typeAssert (.iface 30 v) 20 30 true).run Yba.prog w = .ok (.tuple #[v, .bool true]) w := by kernel_rfl
theorem as30_36 (v : Value) (w : World) : (Instr.typeAssert (.iface 30 v) 20 36 true).run Yba.prog w = .ok (.tuple #[.slice none 0 0, .bool false]) w := by kernel_rfl
theorem as30_9 (v : Value) (w : World) : (Instr.typeAssert (.iface 30 v) 20 9 true).run Yba.prog w = .ok (.tuple #[.string ByteArray.empty, .bool false]) w := by kernel_rfl
theorem as30_37 (v : Value) (w : World) : (Instr.typeAssert (.iface 30 v) 20 37 true).run Yba.prog w = .ok (.tuple #[.string ByteArray.empty, .bool false]) w := by kernel_rfl
theorem as30_22 (v : Value) (w : World) : (Instr.typeAssert (.iface 30 v) 20 22 true).run Yba.prog w = .ok (.tuple #[.float .f64 0, .bool false]) w := by kernel_rfl
theorem as30_4 (v : Value) (w : World) : (Instr.typeAssert (.iface 30 v) 20 4 true).run Yba.prog w = .ok (.tuple #[.bool false, .bool false]) w := by kernel_rfl
theorem as36_29 (v : Value) (w : World) : (Instr.typeAssert (.iface 36 v) 20 29 true).run Yba.prog w = .ok (.tuple #[.map none, .bool false]) w := by kernel_rfl
theorem as36_30 (v : Value) (w : World) : (Instr.typeAssert (.iface 36 v) 20 30 true).run Yba.prog w = .ok (.tuple #[.pointer none, .bool false]) w := by kernel_rfl
theorem as36_36 (v : Value) (w : World) : (Instr.typeAssert (.iface 36 v) 20 36 true).run Yba.prog w = .ok (.tuple #[v, .bool true]) w := by kernel_rfl
theorem as36_9 (v : Value) (w : World) : (Instr.typeAssert (.iface 36 v) 20 9 true).run Yba.prog w = .ok (.tuple #[.string ByteArray.empty, .bool false]) w := by kernel_rfl
theorem as36_37 (v : Value) (w : World) : (Instr.typeAssert (.iface 36 v) 20 37 true).run Yba.prog w = .ok (.tuple #[.string ByteArray.empty, .bool false]) w := by kernel_rfl
theorem as36_22 (v : Value) (w : World) : (Instr.typeAssert (.iface 36 v) 20 22 true).run Yba.prog w = .ok (.tuple #[.float .f64 0, .bool false]) w := by kernel_rfl
theorem as36_4 (v : Value) (w : World) : (Instr.typeAssert (.iface 36 v) 20 4 true).run Yba.prog w = .ok (.tuple #[.bool false, .bool false]) w := by kernel_rfl
theorem as9_29 (v : Value) (w : World) : (Instr.typeAssert (.iface 9 v) 20 29 true).run Yba.prog w = .ok (.tuple #[.map none, .bool false]) w := by kernel_rfl
theorem as9_30 (v : Value) (w : World) : (Instr.typeAssert (.iface 9 v) 20 30 true).run Yba.prog w = .ok (.tuple #[.pointer none, .bool false]) w := by kernel_rfl
theorem as9_36 (v : Value) (w : World) : (Instr.typeAssert (.iface 9 v) 20 36 true).run Yba.prog w = .ok (.tuple #[.slice none 0 0, .bool false]) w := by kernel_rfl
theorem as9_9 (v : Value) (w : World) : (Instr.typeAssert (.iface 9 v) 20 9 true).run Yba.prog w = .ok (.tuple #[v, .bool true]) w := by kernel_rfl
theorem as9_37 (v : Value) (w : World) : (Instr.typeAssert (.iface 9 v) 20 37 true).run Yba.prog w = .ok (.tuple #[.string ByteArray.empty, .bool false]) w := by kernel_rfl
theorem as9_22 (v : Value) (w : World) : (Instr.typeAssert (.iface 9 v) 20 22 true).run Yba.prog w = .ok (.tuple #[.float .f64 0, .bool false]) w := by kernel_rfl
theorem as9_4 (v : Value) (w : World) : (Instr.typeAssert (.iface 9 v) 20 4 true).run Yba.prog w = .ok (.tuple #[.bool false, .bool false]) w := by kernel_rfl
theorem as37_29 (v : Value) (w : World) : (Instr.typeAssert (.iface 37 v) 20 29 true).run Yba.prog w = .ok (.tuple #[.map none, .bool false]) w := by kernel_rfl
theorem as37_30 (v : Value) (w : World) : (Instr.typeAssert (.iface 37 v) 20 30 true).run Yba.prog w = .ok (.tuple #[.pointer none, .bool false]) w := by kernel_rfl
theorem as37_36 (v : Value) (w : World) : (Instr.typeAssert (.iface 37 v) 20 36 true).run Yba.prog w = .ok (.tuple #[.slice none 0 0, .bool false]) w := by kernel_rfl
theorem as37_9 (v : Value) (w : World) : (Instr.typeAssert (.iface 37 v) 20 9 true).run Yba.prog w = .ok (.tuple #[.string ByteArray.empty, .bool false]) w := by kernel_rfl
theorem as37_37 (v : Value) (w : World) : (Instr.typeAssert (.iface 37 v) 20 37 true).run Yba.prog w = .ok (.tuple #[v, .bool true]) w := by kernel_rfl
theorem as37_22 (v : Value) (w : World) : (Instr.typeAssert (.iface 37 v) 20 22 true).run Yba.prog w = .ok (.tuple #[.float .f64 0, .bool false]) w := by kernel_rfl
theorem as37_4 (v : Value) (w : World) : (Instr.typeAssert (.iface 37 v) 20 4 true).run Yba.prog w = .ok (.tuple #[.bool false, .bool false]) w := by kernel_rfl
theorem as22_29 (v : Value) (w : World) : (Instr.typeAssert (.iface 22 v) 20 29 true).run Yba.prog w = .ok (.tuple #[.map none, .bool false]) w := by kernel_rfl
theorem as22_30 (v : Value) (w : World) : (Instr.typeAssert (.iface 22 v) 20 30 true).run Yba.prog w = .ok (.tuple #[.pointer none, .bool false]) w := by kernel_rfl
theorem as22_36 (v : Value) (w : World) : (Instr.typeAssert (.iface 22 v) 20 36 true).run Yba.prog w = .ok (.tuple #[.slice none 0 0, .bool false]) w := by kernel_rfl
theorem as22_9 (v : Value) (w : World) : (Instr.typeAssert (.iface 22 v) 20 9 true).run Yba.prog w = .ok (.tuple #[.string ByteArray.empty, .bool false]) w := by kernel_rfl
theorem as22_37 (v : Value) (w : World) : (Instr.typeAssert (.iface 22 v) 20 37 true).run Yba.prog w = .ok (.tuple #[.string ByteArray.empty, .bool false]) w := by kernel_rfl
theorem as22_22 (v : Value) (w : World) : (Instr.typeAssert (.iface 22 v) 20 22 true).run Yba.prog w = .ok (.tuple #[v, .bool true]) w := by kernel_rfl
theorem as22_4 (v : Value) (w : World) : (Instr.typeAssert (.iface 22 v) 20 4 true).run Yba.prog w = .ok (.tuple #[.bool false, .bool false]) w := by kernel_rfl
theorem as4_29 (v : Value) (w : World) : (Instr.typeAssert (.iface 4 v) 20 29 true).run Yba.prog w = .ok (.tuple #[.map none, .bool false]) w := by kernel_rfl
theorem as4_30 (v : Value) (w : World) : (Instr.typeAssert (.iface 4 v) 20 30 true).run Yba.prog w = .ok (.tuple #[.pointer none, .bool false]) w := by kernel_rfl
theorem as4_36 (v : Value) (w : World) : (Instr.typeAssert (.iface 4 v) 20 36 true).run Yba.prog w = .ok (.tuple #[.slice none 0 0, .bool false]) w := by kernel_rfl
theorem as4_9 (v : Value) (w : World) : (Instr.typeAssert (.iface 4 v) 20 9 true).run Yba.prog w = .ok (.tuple #[.string ByteArray.empty, .bool false]) w := by kernel_rfl
theorem as4_37 (v : Value) (w : World) : (Instr.typeAssert (.iface 4 v) 20 37 true).run Yba.prog w = .ok (.tuple #[.string ByteArray.empty, .bool false]) w := by kernel_rfl
theorem as4_22 (v : Value) (w : World) : (Instr.typeAssert (.iface 4 v) 20 22 true).run Yba.prog w = .ok (.tuple #[.float .f64 0, .bool false]) w := by kernel_rfl
theorem as4_4 (v : Value) (w : World) : (Instr.typeAssert (.iface 4 v) 20 4 true).run Yba.prog w = .ok (.tuple #[v, .bool true]) w := by kernel_rfl
theorem as3_29 (v : Value) (w : World) : (Instr.typeAssert (.iface 3 v) 20 29 true).run Yba.prog w = .ok (.tuple #[.map none, .bool false]) w := by kernel_rfl
theorem as3_30 (v : Value) (w : World) : (Instr.typeAssert (.iface 3 v) 20 30 true).run Yba.prog w = .ok (.tuple #[.pointer none, .bool false]) w := by kernel_rfl
theorem as3_36 (v : Value) (w : World) : (Instr.typeAssert (.iface 3 v) 20 36 true).run Yba.prog w = .ok (.tuple #[.slice none 0 0, .bool false]) w := by kernel_rfl
theorem as3_9 (v : Value) (w : World) : (Instr.typeAssert (.iface 3 v) 20 9 true).run Yba.prog w = .ok (.tuple #[.string ByteArray.empty, .bool false]) w := by kernel_rfl
theorem as3_37 (v : Value) (w : World) : (Instr.typeAssert (.iface 3 v) 20 37 true).run Yba.prog w = .ok (.tuple #[.string ByteArray.empty, .bool false]) w := by kernel_rfl
theorem as3_22 (v : Value) (w : World) : (Instr.typeAssert (.iface 3 v) 20 22 true).run Yba.prog w = .ok (.tuple #[.float .f64 0, .bool false]) w := by kernel_rfl
theorem as3_4 (v : Value) (w : World) : (Instr.typeAssert (.iface 3 v) 20 4 true).run Yba.prog w = .ok (.tuple #[.bool false, .bool false]) w := by kernel_rfl
theorem as38_29 (v : Value) (w : World) : (Instr.typeAssert (.iface 38 v) 20 29 true).run Yba.prog w = .ok (.tuple #[.map none, .bool false]) w := by kernel_rfl
theorem as38_30 (v : Value) (w : World) : (Instr.typeAssert (.iface 38 v) 20 30 true).run Yba.prog w = .ok (.tuple #[.pointer none, .bool false]) w := by kernel_rfl
theorem as38_36 (v : Value) (w : World) : (Instr.typeAssert (.iface 38 v) 20 36 true).run Yba.prog w = .ok (.tuple #[.slice none 0 0, .bool false]) w := by kernel_rfl
theorem as38_9 (v : Value) (w : World) : (Instr.typeAssert (.iface 38 v) 20 9 true).run Yba.prog w = .ok (.tuple #[.string ByteArray.empty, .bool false]) w := by kernel_rfl
theorem as38_37 (v : Value) (w : World) : (Instr.typeAssert (.iface 38 v) 20 37 true).run Yba.prog w = .ok (.tuple #[.string ByteArray.empty, .bool false]) w := by kernel_rfl
theorem as38_22 (v : Value) (w : World) : (Instr.typeAssert (.iface 38 v) 20 22 true).run Yba.prog w = .ok (.tuple #[.float .f64 0, .bool false]) w := by kernel_rfl
theorem as38_4 (v : Value) (w : World) : (Instr.typeAssert (.iface 38 v) 20 4 true).run Yba.prog w = .ok (.tuple #[.bool false, .bool false]) w := by kernel_rfl
theorem as39_29 (v : Value) (w : World) : (Instr.typeAssert (.iface 39 v) 20 29 true).run Yba.prog w = .ok (.tuple #[.map none, .bool false]) w := by kernel_rfl
theorem as39_30 (v : Value) (w : World) : (Instr.typeAssert (.iface 39 v) 20 30 true).run Yba.prog w = .ok (.tuple #[.pointer none, .bool false]) w := by kernel_rfl
theorem as39_36 (v : Value) (w : World) : (Instr.typeAssert (.iface 39 v) 20 36 true).run Yba.prog w = .ok (.tuple #[.slice none 0 0, .bool false]) w := by kernel_rfl
theorem as39_9 (v : Value) (w : World) : (Instr.typeAssert (.iface 39 v) 20 9 true).run Yba.prog w = .ok (.tuple #[.string ByteArray.empty, .bool false]) w := by kernel_rfl
theorem as39_37 (v : Value) (w : World) : (Instr.typeAssert (.iface 39 v) 20 37 true).run Yba.prog w = .ok (.tuple #[.string ByteArray.empty, .bool false]) w := by kernel_rfl
theorem as39_22 (v : Value) (w : World) : (Instr.typeAssert (.iface 39 v) 20 22 true).run Yba.prog w = .ok (.tuple #[.float .f64 0, .bool false]) w := by kernel_rfl
theorem as39_4 (v : Value) (w : World) : (Instr.typeAssert (.iface 39 v) 20 4 true).run Yba.prog w = .ok (.tuple #[.bool false, .bool false]) w := by kernel_rfl
theorem as40_29 (v : Value) (w : World) : (Instr.typeAssert (.iface 40 v) 20 29 true).run Yba.prog w = .ok (.tuple #[.map none, .bool false]) w := by kernel_rfl
theorem as40_30 (v : Value) (w : World) : (Instr.typeAssert (.iface 40 v) 20 30 true).run Yba.prog w = .ok (.tuple #[.pointer none, .bool false]) w := by kernel_rfl
theorem as40_36 (v : Value) (w : World) : (Instr.typeAssert (.iface 40 v) 20 36 true).run Yba.prog w = .ok (.tuple #[.slice none 0 0, .bool false]) w := by kernel_rfl
theorem as40_9 (v : Value) (w : World) : (Instr.typeAssert (.iface 40 v) 20 9 true).run Yba.prog w = .ok (.tuple #[.string ByteArray.empty, .bool false]) w := by kernel_rfl
theorem as40_37 (v : Value) (w : World) : (Instr.typeAssert (.iface 40 v) 20 37 true).run Yba.prog w = .ok (.tuple #[.string ByteArray.empty, .bool false]) w := by kernel_rfl
theorem as40_22 (v : Value) (w : World) : (Instr.typeAssert (.iface 40 v) 20 22 true).run Yba.prog w = .ok (.tuple #[.float .f64 0, .bool false]) w := by kernel_rfl
theorem as40_4 (v : Value) (w : World) : (Instr.typeAssert (.iface 40 v) 20 4 true).run Yba.prog w = .ok (.tuple #[.bool false, .bool false]) w := by kernel_rfl
theorem asn_29 (w : World) : (Instr.typeAssert .nilIface 20 29 true).run Yba.prog w = .ok (.tuple #[.map none, .bool false]) w := by kernel_rfl
theorem asn_30 (w : World) : (Instr.typeAssert .nilIface 20 30 true).run Yba.prog w = .ok (.tuple #[.pointer none, .bool false]) w := by kernel_rfl
theorem asn_36 (w : World) : (Instr.typeAssert .nilIface 20 36 true).run Yba.prog w = .ok (.tuple #[.slice none 0 0, .bool false]) w := by kernel_rfl
theorem asn_9 (w : World) : (Instr.typeAssert .nilIface 20 9 true).run Yba.prog w = .ok (.tuple #[.string ByteArray.empty, .bool false]) w := by kernel_rfl
theorem asn_37 (w : World) : (Instr.typeAssert .nilIface 20 37 true).run Yba.prog w = .ok (.tuple #[.string ByteArray.empty, .bool false]) w := by kernel_rfl
theorem asn_22 (w : World) : (Instr.typeAssert .nilIface 20 22 true).run Yba.prog w = .ok (.tuple #[.float .f64 0, .bool false]) w := by kernel_rfl
theorem asn_4 (w : World) : (Instr.typeAssert .nilIface 20 4 true).run Yba.prog w = .ok (.tuple #[.bool false, .bool false]) w := by kernel_rfl

set_option maxHeartbeats 400000 in
theorem jt_29 (x : Value) (w : World) :
    Calls Yba.prog 6 #[.iface 29 x] w fun e w' => e = .returned (.string { data := #[111, 98, 106, 101, 99, 116] }) ∧ w' = w := by
  have a29 := as29_29 x
  have a30 := as29_30 x
  have a36 := as29_36 x
  have a9 := as29_9 x
  have a37 := as29_37 x
  have a22 := as29_22 x
  have a4 := as29_4 x
  go_enter Yba.func6, Yba.ntmps6
  go_wp2
  go_ret
  exact ⟨rfl, rfl⟩

set_option maxHeartbeats 400000 in
theorem jt_30 (x : Value) (w : World) :
    Calls Yba.prog 6 #[.iface 30 x] w fun e w' => e = .returned (.string { data := #[111, 98, 106, 101, 99, 116] }) ∧ w' = w := by
  have a29 := as30_29 x
  have a30 := as30_30 x
  have a36 := as30_36 x
  have a9 := as30_9 x
  have a37 := as30_37 x
  have a22 := as30_22 x
  have a4 := as30_4 x
  go_enter Yba.func6, Yba.ntmps6
  go_wp2
  go_ret
  exact ⟨rfl, rfl⟩

set_option maxHeartbeats 400000 in
theorem jt_36 (x : Value) (w : World) :
    Calls Yba.prog 6 #[.iface 36 x] w fun e w' => e = .returned (.string { data := #[97, 114, 114, 97, 121] }) ∧ w' = w := by
  have a29 := as36_29 x
  have a30 := as36_30 x
  have a36 := as36_36 x
  have a9 := as36_9 x
  have a37 := as36_37 x
  have a22 := as36_22 x
  have a4 := as36_4 x
  go_enter Yba.func6, Yba.ntmps6
  go_wp2
  go_ret
  exact ⟨rfl, rfl⟩

set_option maxHeartbeats 400000 in
theorem jt_9 (x : Value) (w : World) :
    Calls Yba.prog 6 #[.iface 9 x] w fun e w' => e = .returned (.string { data := #[115, 116, 114, 105, 110, 103] }) ∧ w' = w := by
  have a29 := as9_29 x
  have a30 := as9_30 x
  have a36 := as9_36 x
  have a9 := as9_9 x
  have a37 := as9_37 x
  have a22 := as9_22 x
  have a4 := as9_4 x
  go_enter Yba.func6, Yba.ntmps6
  go_wp2
  go_ret
  exact ⟨rfl, rfl⟩

set_option maxHeartbeats 400000 in
theorem jt_37 (x : Value) (w : World) :
    Calls Yba.prog 6 #[.iface 37 x] w fun e w' => e = .returned (.string { data := #[110, 117, 109, 98, 101, 114] }) ∧ w' = w := by
  have a29 := as37_29 x
  have a30 := as37_30 x
  have a36 := as37_36 x
  have a9 := as37_9 x
  have a37 := as37_37 x
  have a22 := as37_22 x
  have a4 := as37_4 x
  go_enter Yba.func6, Yba.ntmps6
  go_wp2
  go_ret
  exact ⟨rfl, rfl⟩

set_option maxHeartbeats 400000 in
theorem jt_22 (x : Value) (w : World) :
    Calls Yba.prog 6 #[.iface 22 x] w fun e w' => e = .returned (.string { data := #[110, 117, 109, 98, 101, 114] }) ∧ w' = w := by
  have a29 := as22_29 x
  have a30 := as22_30 x
  have a36 := as22_36 x
  have a9 := as22_9 x
  have a37 := as22_37 x
  have a22 := as22_22 x
  have a4 := as22_4 x
  go_enter Yba.func6, Yba.ntmps6
  go_wp2
  go_ret
  exact ⟨rfl, rfl⟩

set_option maxHeartbeats 400000 in
theorem jt_4 (x : Value) (w : World) :
    Calls Yba.prog 6 #[.iface 4 x] w fun e w' => e = .returned (.string { data := #[98, 111, 111, 108, 101, 97, 110] }) ∧ w' = w := by
  have a29 := as4_29 x
  have a30 := as4_30 x
  have a36 := as4_36 x
  have a9 := as4_9 x
  have a37 := as4_37 x
  have a22 := as4_22 x
  have a4 := as4_4 x
  go_enter Yba.func6, Yba.ntmps6
  go_wp2
  go_ret
  exact ⟨rfl, rfl⟩

set_option maxHeartbeats 400000 in
theorem jt_3 (x : Value) (w : World) :
    Calls Yba.prog 6 #[.iface 3 x] w fun e w' => e = .returned (.string { data := #[110, 117, 108, 108] }) ∧ w' = w := by
  have a29 := as3_29 x
  have a30 := as3_30 x
  have a36 := as3_36 x
  have a9 := as3_9 x
  have a37 := as3_37 x
  have a22 := as3_22 x
  have a4 := as3_4 x
  go_enter Yba.func6, Yba.ntmps6
  go_wp2
  go_ret
  exact ⟨rfl, rfl⟩

set_option maxHeartbeats 400000 in
theorem jt_38 (x : Value) (w : World) :
    Calls Yba.prog 6 #[.iface 38 x] w fun e w' => e = .returned (.string { data := #[110, 117, 108, 108] }) ∧ w' = w := by
  have a29 := as38_29 x
  have a30 := as38_30 x
  have a36 := as38_36 x
  have a9 := as38_9 x
  have a37 := as38_37 x
  have a22 := as38_22 x
  have a4 := as38_4 x
  go_enter Yba.func6, Yba.ntmps6
  go_wp2
  go_ret
  exact ⟨rfl, rfl⟩

set_option maxHeartbeats 400000 in
theorem jt_39 (x : Value) (w : World) :
    Calls Yba.prog 6 #[.iface 39 x] w fun e w' => e = .returned (.string { data := #[110, 117, 108, 108] }) ∧ w' = w := by
  have a29 := as39_29 x
  have a30 := as39_30 x
  have a36 := as39_36 x
  have a9 := as39_9 x
  have a37 := as39_37 x
  have a22 := as39_22 x
  have a4 := as39_4 x
  go_enter Yba.func6, Yba.ntmps6
  go_wp2
  go_ret
  exact ⟨rfl, rfl⟩

set_option maxHeartbeats 400000 in
theorem jt_40 (x : Value) (w : World) :
    Calls Yba.prog 6 #[.iface 40 x] w fun e w' => e = .returned (.string { data := #[110, 117, 108, 108] }) ∧ w' = w := by
  have a29 := as40_29 x
  have a30 := as40_30 x
  have a36 := as40_36 x
  have a9 := as40_9 x
  have a37 := as40_37 x
  have a22 := as40_22 x
  have a4 := as40_4 x
  go_enter Yba.func6, Yba.ntmps6
  go_wp2
  go_ret
  exact ⟨rfl, rfl⟩

set_option maxHeartbeats 400000 in
theorem jt_n (w : World) :
    Calls Yba.prog 6 #[.nilIface] w fun e w' => e = .returned (.string { data := #[110, 117, 108, 108] }) ∧ w' = w := by
  have a29 := asn_29
  have a30 := asn_30
  have a36 := asn_36
  have a9 := asn_9
  have a37 := asn_37
  have a22 := asn_22
  have a4 := asn_4
  go_enter Yba.func6, Yba.ntmps6
  go_wp2
  go_ret
  exact ⟨rfl, rfl⟩

end Go.Proofs.Ybulkdcpk
