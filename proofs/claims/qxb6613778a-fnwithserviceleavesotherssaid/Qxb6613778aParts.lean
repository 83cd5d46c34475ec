/-
  The callees' contracts.
-/
import Derived.Test.Qxb6613778aRows
import Derived.WalkKit
import Derived.WalkSpells
import Derived.WalkLawsBesides
import Derived.LaidEql
import Derived.Lib.Builder
namespace Go.Proofs.Qxb6613778a
open Go.RowKit

theorem as25 (v : Value) (w : World) : (Instr.typeAssert (.iface 25 v) 35 25 true).run Try.prog w = .ok (.tuple #[v, .bool true]) w := by kernel_rfl
theorem as39 (v : Value) (w : World) : (Instr.typeAssert (.iface 39 v) 35 25 true).run Try.prog w = .ok (.tuple #[.pointer none, .bool false]) w := by kernel_rfl
theorem asNil (w : World) : (Instr.typeAssert .nilIface 35 25 true).run Try.prog w = .ok (.tuple #[.pointer none, .bool false]) w := by kernel_rfl
theorem eqNil (w : World) : (binOp .eql 35 .nilIface .nilIface).run Try.prog w = .ok (.bool true) w := by kernel_rfl
theorem info_of {t : TypeId} (h : ((Try.prog.info? t).map fun i => i.comparable) = some true) : ∃ i, Try.prog.info? t = some i ∧ i.comparable = true := by
  obtain ⟨i, hi, hc⟩ := Option.map_eq_some_iff.1 h
  exact ⟨i, hi, hc⟩
theorem eqSame (a : Addr) (w : World) : (binOp .eql 35 (.iface 39 (.pointer (some a))) (.iface 39 (.pointer (some a)))).run Try.prog w = .ok (.bool true) w := by
  obtain ⟨i, hi, hc⟩ := info_of (t := 39) (by kernel_rfl)
  obtain ⟨j, hj, _⟩ := info_of (t := 41) (by kernel_rfl)
  exact run_eql_iface_ptr_same w a Try.underlying35 Try.underlying39 hi hc hj
theorem neSame (a : Addr) (w : World) : (binOp .neq 25 (.pointer (some a)) (.pointer (some a))).run Try.prog w = .ok (.bool false) w := by
  obtain ⟨j, hj, _⟩ := info_of (t := 32) (by kernel_rfl)
  exact Lib.run_neq_ptr_same w a Try.underlying25 hj

def IsBool (e : Ending) : Prop := ∃ b, e = .returned (.bool b)

set_option maxHeartbeats 1000000 in
theorem bytes_any (a0 a1 a2 a5 a6 : ByteArray) (a3 a4 : Bool) (w0 : a0.size ≤ maxLen) (w1 : a1.size ≤ maxLen) (w2 : a2.size ≤ maxLen) (w5 : a5.size ≤ maxLen) (w6 : a6.size ≤ maxLen) (w : World) :
    Calls Try.prog 8 #[.string a0, .string a1, .string a2, .bool a3, .bool a4, .string a5, .string a6] w fun e w' => IsBool e ∧ w' = w := by
  unfold maxLen at w0 w1 w2 w5 w6
  go_enter Try.func8, Try.ntmps8
  go_wp2
  all_goals
    go_ret
    exact ⟨⟨_, rfl⟩, rfl⟩

set_option maxHeartbeats 400000 in
theorem newError_any (c m s : ByteArray) (r l : Bool) (w : World) :
    Calls Try.prog 9 #[.string c, .string m, .string s, .bool r, .bool l] w fun e w' => e = .returned (.pointer (some ⟨w.heap.size, 0, none⟩)) ∧ w' = w.alloc (.cells #[.string c, .string m, .string s, .bool r, .bool l] 32) := by
  go_enter Try.func9, Try.ntmps9
  go_wp2
  go_ret
  exact ⟨rfl, rfl⟩

set_option maxHeartbeats 400000 in
theorem errNew_any (t : ByteArray) (w : World) :
    Calls Try.prog 16 #[.string t] w fun e w' => e = .returned (.iface 39 (.pointer (some ⟨w.heap.size, 0, none⟩))) ∧ w' = w.alloc (.cells #[.string t] 41) := by
  go_enter Try.func16, Try.ntmps16
  go_wp2
  go_ret
  exact ⟨rfl, rfl⟩

set_option maxHeartbeats 400000 in
theorem with_named (b : Nat) (svc service : ByteArray) (w : World) (h2 : w.cell? ⟨b, 2, none⟩ = some (.string svc)) (hs : svc.toList.isEmpty = false) :
    Calls Try.prog 14 #[.iface 25 (.pointer (some ⟨b, 0, none⟩)), .string service] w fun e w' => e = .returned (.iface 25 (.pointer (some ⟨b, 0, none⟩))) ∧ w' = w := by
  have ha := as25
  go_enter Try.func14, Try.ntmps14
  go_wp2
  go_ret
  exact ⟨rfl, rfl⟩

set_option maxHeartbeats 400000 in
theorem with_plain (b : Nat) (service : ByteArray) (w : World) :
    Calls Try.prog 14 #[.iface 39 (.pointer (some ⟨b, 0, none⟩)), .string service] w fun e w' => e = .returned (.iface 39 (.pointer (some ⟨b, 0, none⟩))) ∧ w' = w := by
  have ha := as39
  go_enter Try.func14, Try.ntmps14
  go_wp2
  go_ret
  exact ⟨rfl, rfl⟩

set_option maxHeartbeats 400000 in
theorem with_nil (service : ByteArray) (w : World) :
    Calls Try.prog 14 #[.nilIface, .string service] w fun e w' => e = .returned .nilIface ∧ w' = w := by
  have ha := asNil
  go_enter Try.func14, Try.ntmps14
  go_wp2
  go_ret
  exact ⟨rfl, rfl⟩

set_option maxHeartbeats 400000 in
theorem with_unnamed (b : Nat) (c m svc service : ByteArray) (r l : Bool) (w : World) (h0 : w.cell? ⟨b, 0, none⟩ = some (.string c)) (h1 : w.cell? ⟨b, 1, none⟩ = some (.string m)) (h2 : w.cell? ⟨b, 2, none⟩ = some (.string svc)) (h3 : w.cell? ⟨b, 3, none⟩ = some (.bool r)) (h4 : w.cell? ⟨b, 4, none⟩ = some (.bool l))
    (hs : svc.toList.isEmpty = true) :
    Calls Try.prog 14 #[.iface 25 (.pointer (some ⟨b, 0, none⟩)), .string service] w fun e w' => e = .returned (.iface 25 (.pointer (some ⟨w.heap.size, 0, none⟩))) ∧ w' = w.alloc (.cells #[.string c, .string m, .string service, .bool r, .bool l] 32) := by
  have ha := as25
  go_enter Try.func14, Try.ntmps14
  go_wp2
  go_ret
  exact ⟨rfl, rfl⟩

set_option maxHeartbeats 400000 in
theorem local_any (b : Nat) (l : Bool) (w : World) (h4 : w.cell? ⟨b, 4, none⟩ = some (.bool l)) :
    Calls Try.prog 15 #[.pointer (some ⟨b, 0, none⟩)] w fun e w' => e = .returned (.bool l) ∧ w' = w := by
  go_enter Try.func15, Try.ntmps15
  go_wp2
  go_ret
  exact ⟨rfl, rfl⟩

set_option maxHeartbeats 400000 in
theorem same_any (b : Nat) (c m s : ByteArray) (r l : Bool) (w : World) (h0 : w.cell? ⟨b, 0, none⟩ = some (.string c)) (h1 : w.cell? ⟨b, 1, none⟩ = some (.string m)) (h2 : w.cell? ⟨b, 2, none⟩ = some (.string s)) (h3 : w.cell? ⟨b, 3, none⟩ = some (.bool r)) (h4 : w.cell? ⟨b, 4, none⟩ = some (.bool l)) :
    Calls Try.prog 11 #[.pointer (some ⟨b, 0, none⟩), .string c, .string m, .string s, .bool r, .bool l] w fun e w' => e = .returned (.bool true) ∧ w' = w := by
  go_enter Try.func11, Try.ntmps11
  go_wp2_with (go_at_call 15; refine (local_any b l w h4).mono ?_; rintro e w' ⟨rfl, rfl⟩)
  go_ret
  exact ⟨rfl, rfl⟩

/-! ### the shims -/
set_option maxHeartbeats 400000 in
theorem ZZwith_named (b : Nat) (svc service : ByteArray) (w : World) (h2 : w.cell? ⟨b, 2, none⟩ = some (.string svc)) (hs : svc.toList.isEmpty = false) :
    Calls Try.prog 10 #[.pointer (some ⟨b, 0, none⟩), .string service] w fun e w' => e = .returned (.pointer (some ⟨b, 0, none⟩)) ∧ w' = w := by
  have ha := as25
  go_enter Try.func10, Try.ntmps10
  go_wp2_with (go_at_call 14; refine (with_named b svc service w h2 hs).mono ?_; rintro e w' ⟨rfl, rfl⟩)
  go_ret
  exact ⟨rfl, rfl⟩
set_option maxHeartbeats 400000 in
theorem ZZwith_unnamed (b : Nat) (c m svc service : ByteArray) (r l : Bool) (w : World) (h0 : w.cell? ⟨b, 0, none⟩ = some (.string c)) (h1 : w.cell? ⟨b, 1, none⟩ = some (.string m)) (h2 : w.cell? ⟨b, 2, none⟩ = some (.string svc)) (h3 : w.cell? ⟨b, 3, none⟩ = some (.bool r)) (h4 : w.cell? ⟨b, 4, none⟩ = some (.bool l))
    (hs : svc.toList.isEmpty = true) :
    Calls Try.prog 10 #[.pointer (some ⟨b, 0, none⟩), .string service] w fun e w' => e = .returned (.pointer (some ⟨w.heap.size, 0, none⟩)) ∧ w' = w.alloc (.cells #[.string c, .string m, .string service, .bool r, .bool l] 32) := by
  have ha := as25
  go_enter Try.func10, Try.ntmps10
  go_wp2_with (go_at_call 14; refine (with_unnamed b c m svc service r l w h0 h1 h2 h3 h4 hs).mono ?_; rintro e w' ⟨rfl, rfl⟩)
  go_ret
  exact ⟨rfl, rfl⟩
set_option maxHeartbeats 400000 in
theorem ZZplain_any (t service : ByteArray) (w : World) :
    Calls Try.prog 12 #[.string t, .string service] w fun e w' => e = .returned (.bool true) ∧ w' = w.alloc (.cells #[.string t] 41) := by
  have hq := eqSame
  go_enter Try.func12, Try.ntmps12
  go_wp2_with (first | (go_at_call 16; refine (errNew_any t w).mono ?_; rintro e w' ⟨rfl, rfl⟩) | (go_at_call 14; refine (with_plain _ service _).mono ?_; rintro e w' ⟨rfl, rfl⟩))
  go_ret
  exact ⟨rfl, rfl⟩
set_option maxHeartbeats 400000 in
theorem ZZnil_any (service : ByteArray) (w : World) :
    Calls Try.prog 13 #[.string service] w fun e w' => e = .returned (.bool true) ∧ w' = w := by
  have hq := eqNil
  go_enter Try.func13, Try.ntmps13
  go_wp2_with (go_at_call 14; refine (with_nil service w).mono ?_; rintro e w' ⟨rfl, rfl⟩)
  go_ret
  exact ⟨rfl, rfl⟩
end Go.Proofs.Qxb6613778a
