/-
  'kindOf' and the shims round it: by the dynamic type.
-/
import Derived.Test.Qxb6609255aRows
import Derived.WalkKit
import Derived.WalkSpells
import Derived.WalkLawsBesides
import Derived.Deep.OwnRows
namespace Go.Proofs.Qxb6609255a
open Go.RowKit

theorem notNil (T : TypeId) (v : Value) (w : World) : (binOp .eql 20 (.iface T v) .nilIface).run Try.prog w = .ok (.bool false) w := by kernel_rfl
theorem isNil (w : World) : (binOp .eql 20 .nilIface .nilIface).run Try.prog w = .ok (.bool true) w := by kernel_rfl
theorem nil_9 (w : World) : (Instr.typeAssert .nilIface 20 9 true).run Try.prog w = .ok (.tuple #[.string ByteArray.empty, .bool false]) w := by kernel_rfl
theorem nil_28 (w : World) : (Instr.typeAssert .nilIface 20 28 true).run Try.prog w = .ok (.tuple #[.float .f64 0, .bool false]) w := by kernel_rfl
theorem nil_4 (w : World) : (Instr.typeAssert .nilIface 20 4 true).run Try.prog w = .ok (.tuple #[.bool false, .bool false]) w := by kernel_rfl
theorem as9_9 (v : Value) (w : World) : (Instr.typeAssert (.iface 9 v) 20 9 true).run Try.prog w = .ok (.tuple #[v, .bool true]) w := by kernel_rfl
theorem as9_28 (v : Value) (w : World) : (Instr.typeAssert (.iface 9 v) 20 28 true).run Try.prog w = .ok (.tuple #[.float .f64 0, .bool false]) w := by kernel_rfl
theorem as9_4 (v : Value) (w : World) : (Instr.typeAssert (.iface 9 v) 20 4 true).run Try.prog w = .ok (.tuple #[.bool false, .bool false]) w := by kernel_rfl
theorem as9_43 (v : Value) (w : World) : (Instr.typeAssert (.iface 9 v) 20 43 true).run Try.prog w = .ok (.tuple #[.slice none 0 0, .bool false]) w := by kernel_rfl
theorem as9_44 (v : Value) (w : World) : (Instr.typeAssert (.iface 9 v) 20 44 true).run Try.prog w = .ok (.tuple #[.map none, .bool false]) w := by kernel_rfl
theorem as28_9 (v : Value) (w : World) : (Instr.typeAssert (.iface 28 v) 20 9 true).run Try.prog w = .ok (.tuple #[.string ByteArray.empty, .bool false]) w := by kernel_rfl
theorem as28_28 (v : Value) (w : World) : (Instr.typeAssert (.iface 28 v) 20 28 true).run Try.prog w = .ok (.tuple #[v, .bool true]) w := by kernel_rfl
theorem as28_4 (v : Value) (w : World) : (Instr.typeAssert (.iface 28 v) 20 4 true).run Try.prog w = .ok (.tuple #[.bool false, .bool false]) w := by kernel_rfl
theorem as28_43 (v : Value) (w : World) : (Instr.typeAssert (.iface 28 v) 20 43 true).run Try.prog w = .ok (.tuple #[.slice none 0 0, .bool false]) w := by kernel_rfl
theorem as28_44 (v : Value) (w : World) : (Instr.typeAssert (.iface 28 v) 20 44 true).run Try.prog w = .ok (.tuple #[.map none, .bool false]) w := by kernel_rfl
theorem as4_9 (v : Value) (w : World) : (Instr.typeAssert (.iface 4 v) 20 9 true).run Try.prog w = .ok (.tuple #[.string ByteArray.empty, .bool false]) w := by kernel_rfl
theorem as4_28 (v : Value) (w : World) : (Instr.typeAssert (.iface 4 v) 20 28 true).run Try.prog w = .ok (.tuple #[.float .f64 0, .bool false]) w := by kernel_rfl
theorem as4_4 (v : Value) (w : World) : (Instr.typeAssert (.iface 4 v) 20 4 true).run Try.prog w = .ok (.tuple #[v, .bool true]) w := by kernel_rfl
theorem as4_43 (v : Value) (w : World) : (Instr.typeAssert (.iface 4 v) 20 43 true).run Try.prog w = .ok (.tuple #[.slice none 0 0, .bool false]) w := by kernel_rfl
theorem as4_44 (v : Value) (w : World) : (Instr.typeAssert (.iface 4 v) 20 44 true).run Try.prog w = .ok (.tuple #[.map none, .bool false]) w := by kernel_rfl
theorem as43_9 (v : Value) (w : World) : (Instr.typeAssert (.iface 43 v) 20 9 true).run Try.prog w = .ok (.tuple #[.string ByteArray.empty, .bool false]) w := by kernel_rfl
theorem as43_28 (v : Value) (w : World) : (Instr.typeAssert (.iface 43 v) 20 28 true).run Try.prog w = .ok (.tuple #[.float .f64 0, .bool false]) w := by kernel_rfl
theorem as43_4 (v : Value) (w : World) : (Instr.typeAssert (.iface 43 v) 20 4 true).run Try.prog w = .ok (.tuple #[.bool false, .bool false]) w := by kernel_rfl
theorem as43_43 (v : Value) (w : World) : (Instr.typeAssert (.iface 43 v) 20 43 true).run Try.prog w = .ok (.tuple #[v, .bool true]) w := by kernel_rfl
theorem as43_44 (v : Value) (w : World) : (Instr.typeAssert (.iface 43 v) 20 44 true).run Try.prog w = .ok (.tuple #[.map none, .bool false]) w := by kernel_rfl
theorem as44_9 (v : Value) (w : World) : (Instr.typeAssert (.iface 44 v) 20 9 true).run Try.prog w = .ok (.tuple #[.string ByteArray.empty, .bool false]) w := by kernel_rfl
theorem as44_28 (v : Value) (w : World) : (Instr.typeAssert (.iface 44 v) 20 28 true).run Try.prog w = .ok (.tuple #[.float .f64 0, .bool false]) w := by kernel_rfl
theorem as44_4 (v : Value) (w : World) : (Instr.typeAssert (.iface 44 v) 20 4 true).run Try.prog w = .ok (.tuple #[.bool false, .bool false]) w := by kernel_rfl
theorem as44_43 (v : Value) (w : World) : (Instr.typeAssert (.iface 44 v) 20 43 true).run Try.prog w = .ok (.tuple #[.slice none 0 0, .bool false]) w := by kernel_rfl
theorem as44_44 (v : Value) (w : World) : (Instr.typeAssert (.iface 44 v) 20 44 true).run Try.prog w = .ok (.tuple #[v, .bool true]) w := by kernel_rfl
theorem as34_9 (v : Value) (w : World) : (Instr.typeAssert (.iface 34 v) 20 9 true).run Try.prog w = .ok (.tuple #[.string ByteArray.empty, .bool false]) w := by kernel_rfl
theorem as34_28 (v : Value) (w : World) : (Instr.typeAssert (.iface 34 v) 20 28 true).run Try.prog w = .ok (.tuple #[.float .f64 0, .bool false]) w := by kernel_rfl
theorem as34_4 (v : Value) (w : World) : (Instr.typeAssert (.iface 34 v) 20 4 true).run Try.prog w = .ok (.tuple #[.bool false, .bool false]) w := by kernel_rfl
theorem as34_43 (v : Value) (w : World) : (Instr.typeAssert (.iface 34 v) 20 43 true).run Try.prog w = .ok (.tuple #[.slice none 0 0, .bool false]) w := by kernel_rfl
theorem as34_44 (v : Value) (w : World) : (Instr.typeAssert (.iface 34 v) 20 44 true).run Try.prog w = .ok (.tuple #[.map none, .bool false]) w := by kernel_rfl
theorem as45_9 (v : Value) (w : World) : (Instr.typeAssert (.iface 45 v) 20 9 true).run Try.prog w = .ok (.tuple #[.string ByteArray.empty, .bool false]) w := by kernel_rfl
theorem as45_28 (v : Value) (w : World) : (Instr.typeAssert (.iface 45 v) 20 28 true).run Try.prog w = .ok (.tuple #[.float .f64 0, .bool false]) w := by kernel_rfl
theorem as45_4 (v : Value) (w : World) : (Instr.typeAssert (.iface 45 v) 20 4 true).run Try.prog w = .ok (.tuple #[.bool false, .bool false]) w := by kernel_rfl
theorem as45_43 (v : Value) (w : World) : (Instr.typeAssert (.iface 45 v) 20 43 true).run Try.prog w = .ok (.tuple #[.slice none 0 0, .bool false]) w := by kernel_rfl
theorem as45_44 (v : Value) (w : World) : (Instr.typeAssert (.iface 45 v) 20 44 true).run Try.prog w = .ok (.tuple #[.map none, .bool false]) w := by kernel_rfl
theorem as46_9 (v : Value) (w : World) : (Instr.typeAssert (.iface 46 v) 20 9 true).run Try.prog w = .ok (.tuple #[.string ByteArray.empty, .bool false]) w := by kernel_rfl
theorem as46_28 (v : Value) (w : World) : (Instr.typeAssert (.iface 46 v) 20 28 true).run Try.prog w = .ok (.tuple #[.float .f64 0, .bool false]) w := by kernel_rfl
theorem as46_4 (v : Value) (w : World) : (Instr.typeAssert (.iface 46 v) 20 4 true).run Try.prog w = .ok (.tuple #[.bool false, .bool false]) w := by kernel_rfl
theorem as46_43 (v : Value) (w : World) : (Instr.typeAssert (.iface 46 v) 20 43 true).run Try.prog w = .ok (.tuple #[.slice none 0 0, .bool false]) w := by kernel_rfl
theorem as46_44 (v : Value) (w : World) : (Instr.typeAssert (.iface 46 v) 20 44 true).run Try.prog w = .ok (.tuple #[.map none, .bool false]) w := by kernel_rfl
theorem as47_9 (v : Value) (w : World) : (Instr.typeAssert (.iface 47 v) 20 9 true).run Try.prog w = .ok (.tuple #[.string ByteArray.empty, .bool false]) w := by kernel_rfl
theorem as47_28 (v : Value) (w : World) : (Instr.typeAssert (.iface 47 v) 20 28 true).run Try.prog w = .ok (.tuple #[.float .f64 0, .bool false]) w := by kernel_rfl
theorem as47_4 (v : Value) (w : World) : (Instr.typeAssert (.iface 47 v) 20 4 true).run Try.prog w = .ok (.tuple #[.bool false, .bool false]) w := by kernel_rfl
theorem as47_43 (v : Value) (w : World) : (Instr.typeAssert (.iface 47 v) 20 43 true).run Try.prog w = .ok (.tuple #[.slice none 0 0, .bool false]) w := by kernel_rfl
theorem as47_44 (v : Value) (w : World) : (Instr.typeAssert (.iface 47 v) 20 44 true).run Try.prog w = .ok (.tuple #[.map none, .bool false]) w := by kernel_rfl
theorem as3_9 (v : Value) (w : World) : (Instr.typeAssert (.iface 3 v) 20 9 true).run Try.prog w = .ok (.tuple #[.string ByteArray.empty, .bool false]) w := by kernel_rfl
theorem as3_28 (v : Value) (w : World) : (Instr.typeAssert (.iface 3 v) 20 28 true).run Try.prog w = .ok (.tuple #[.float .f64 0, .bool false]) w := by kernel_rfl
theorem as3_4 (v : Value) (w : World) : (Instr.typeAssert (.iface 3 v) 20 4 true).run Try.prog w = .ok (.tuple #[.bool false, .bool false]) w := by kernel_rfl
theorem as3_43 (v : Value) (w : World) : (Instr.typeAssert (.iface 3 v) 20 43 true).run Try.prog w = .ok (.tuple #[.slice none 0 0, .bool false]) w := by kernel_rfl
theorem as3_44 (v : Value) (w : World) : (Instr.typeAssert (.iface 3 v) 20 44 true).run Try.prog w = .ok (.tuple #[.map none, .bool false]) w := by kernel_rfl
theorem as2_9 (v : Value) (w : World) : (Instr.typeAssert (.iface 2 v) 20 9 true).run Try.prog w = .ok (.tuple #[.string ByteArray.empty, .bool false]) w := by kernel_rfl
theorem as2_28 (v : Value) (w : World) : (Instr.typeAssert (.iface 2 v) 20 28 true).run Try.prog w = .ok (.tuple #[.float .f64 0, .bool false]) w := by kernel_rfl
theorem as2_4 (v : Value) (w : World) : (Instr.typeAssert (.iface 2 v) 20 4 true).run Try.prog w = .ok (.tuple #[.bool false, .bool false]) w := by kernel_rfl
theorem as2_43 (v : Value) (w : World) : (Instr.typeAssert (.iface 2 v) 20 43 true).run Try.prog w = .ok (.tuple #[.slice none 0 0, .bool false]) w := by kernel_rfl
theorem as2_44 (v : Value) (w : World) : (Instr.typeAssert (.iface 2 v) 20 44 true).run Try.prog w = .ok (.tuple #[.map none, .bool false]) w := by kernel_rfl

set_option maxHeartbeats 400000 in
theorem kindOf_9 (v : Value) (w : World) : Calls Try.prog 24 #[.iface 9 v] w fun e w' => e = .returned (.string ⟨#[115, 116, 114, 105, 110, 103]⟩) ∧ w' = w := by
  have h9 := as9_9
  go_enter Try.func24, Try.ntmps24
  go_wp2
  go_ret
  exact ⟨rfl, rfl⟩

set_option maxHeartbeats 400000 in
theorem kindOf_28 (v : Value) (w : World) : Calls Try.prog 24 #[.iface 28 v] w fun e w' => e = .returned (.string ⟨#[110, 117, 109, 98, 101, 114]⟩) ∧ w' = w := by
  have h9 := as28_9
  have h28 := as28_28
  go_enter Try.func24, Try.ntmps24
  go_wp2
  go_ret
  exact ⟨rfl, rfl⟩

set_option maxHeartbeats 400000 in
theorem kindOf_4 (v : Value) (w : World) : Calls Try.prog 24 #[.iface 4 v] w fun e w' => e = .returned (.string ⟨#[98, 111, 111, 108, 101, 97, 110]⟩) ∧ w' = w := by
  have h9 := as4_9
  have h28 := as4_28
  have h4 := as4_4
  go_enter Try.func24, Try.ntmps24
  go_wp2
  go_ret
  exact ⟨rfl, rfl⟩

set_option maxHeartbeats 400000 in
theorem kindOf_43 (v : Value) (w : World) : Calls Try.prog 24 #[.iface 43 v] w fun e w' => e = .returned (.string ⟨#[97, 114, 114, 97, 121]⟩) ∧ w' = w := by
  have h9 := as43_9
  have h28 := as43_28
  have h4 := as43_4
  have h43 := as43_43
  have hn := notNil 43
  go_enter Try.func24, Try.ntmps24
  go_wp2
  go_ret
  exact ⟨rfl, rfl⟩

set_option maxHeartbeats 400000 in
theorem kindOf_44 (v : Value) (w : World) : Calls Try.prog 24 #[.iface 44 v] w fun e w' => e = .returned (.string ⟨#[111, 98, 106, 101, 99, 116]⟩) ∧ w' = w := by
  have h9 := as44_9
  have h28 := as44_28
  have h4 := as44_4
  have h43 := as44_43
  have h44 := as44_44
  have hn := notNil 44
  go_enter Try.func24, Try.ntmps24
  go_wp2
  go_ret
  exact ⟨rfl, rfl⟩

set_option maxHeartbeats 400000 in
theorem kindOf_34 (v : Value) (w : World) : Calls Try.prog 24 #[.iface 34 v] w fun e w' => e = .returned (.string ⟨#[]⟩) ∧ w' = w := by
  have h9 := as34_9
  have h28 := as34_28
  have h4 := as34_4
  have h43 := as34_43
  have h44 := as34_44
  have hn := notNil 34
  go_enter Try.func24, Try.ntmps24
  go_wp2
  go_ret
  exact ⟨rfl, rfl⟩

set_option maxHeartbeats 400000 in
theorem kindOf_45 (v : Value) (w : World) : Calls Try.prog 24 #[.iface 45 v] w fun e w' => e = .returned (.string ⟨#[]⟩) ∧ w' = w := by
  have h9 := as45_9
  have h28 := as45_28
  have h4 := as45_4
  have h43 := as45_43
  have h44 := as45_44
  have hn := notNil 45
  go_enter Try.func24, Try.ntmps24
  go_wp2
  go_ret
  exact ⟨rfl, rfl⟩

set_option maxHeartbeats 400000 in
theorem kindOf_46 (v : Value) (w : World) : Calls Try.prog 24 #[.iface 46 v] w fun e w' => e = .returned (.string ⟨#[]⟩) ∧ w' = w := by
  have h9 := as46_9
  have h28 := as46_28
  have h4 := as46_4
  have h43 := as46_43
  have h44 := as46_44
  have hn := notNil 46
  go_enter Try.func24, Try.ntmps24
  go_wp2
  go_ret
  exact ⟨rfl, rfl⟩

set_option maxHeartbeats 400000 in
theorem kindOf_47 (v : Value) (w : World) : Calls Try.prog 24 #[.iface 47 v] w fun e w' => e = .returned (.string ⟨#[]⟩) ∧ w' = w := by
  have h9 := as47_9
  have h28 := as47_28
  have h4 := as47_4
  have h43 := as47_43
  have h44 := as47_44
  have hn := notNil 47
  go_enter Try.func24, Try.ntmps24
  go_wp2
  go_ret
  exact ⟨rfl, rfl⟩

set_option maxHeartbeats 400000 in
theorem kindOf_3 (v : Value) (w : World) : Calls Try.prog 24 #[.iface 3 v] w fun e w' => e = .returned (.string ⟨#[]⟩) ∧ w' = w := by
  have h9 := as3_9
  have h28 := as3_28
  have h4 := as3_4
  have h43 := as3_43
  have h44 := as3_44
  have hn := notNil 3
  go_enter Try.func24, Try.ntmps24
  go_wp2
  go_ret
  exact ⟨rfl, rfl⟩

set_option maxHeartbeats 400000 in
theorem kindOf_2 (v : Value) (w : World) : Calls Try.prog 24 #[.iface 2 v] w fun e w' => e = .returned (.string ⟨#[]⟩) ∧ w' = w := by
  have h9 := as2_9
  have h28 := as2_28
  have h4 := as2_4
  have h43 := as2_43
  have h44 := as2_44
  have hn := notNil 2
  go_enter Try.func24, Try.ntmps24
  go_wp2
  go_ret
  exact ⟨rfl, rfl⟩

set_option maxHeartbeats 400000 in
theorem kindOf_nil (w : World) : Calls Try.prog 24 #[.nilIface] w fun e w' => e = .returned (.string ⟨#[110, 117, 108, 108]⟩) ∧ w' = w := by
  have h9 := nil_9
  have h28 := nil_28
  have h4 := nil_4
  have hn := isNil
  go_enter Try.func24, Try.ntmps24
  go_wp2
  go_ret
  exact ⟨rfl, rfl⟩
end Go.Proofs.Qxb6609255a
