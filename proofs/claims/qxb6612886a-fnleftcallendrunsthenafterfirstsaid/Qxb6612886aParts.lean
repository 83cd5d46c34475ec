/-
  The callees: atomic.Bool's methods, the closure that counts, 'end', the small shims.
-/
import Derived.Test.Qxb6612886aRows
import Derived.WalkKit
import Derived.WalkSpells
import Derived.WalkLawsBesides
import Derived.Laws.LoneSync
import Derived.Laws.EntriesVeiled
import Derived.Deep.RegionWith
import Derived.Deep.RegionHeld
namespace Go.Proofs.Qxb6612886a
open Go.RowKit

set_option maxHeartbeats 400000 in
theorem b32_true (w : World) : Calls Try.prog 13 #[.bool true] w fun e w' => e = .returned (.int .u32 1) ∧ w' = w := by
  go_enter Try.func13, Try.ntmps13
  go_wp2
  go_ret
  exact ⟨rfl, rfl⟩
set_option maxHeartbeats 400000 in
theorem b32_false (w : World) : Calls Try.prog 13 #[.bool false] w fun e w' => e = .returned (.int .u32 0) ∧ w' = w := by
  go_enter Try.func13, Try.ntmps13
  go_wp2
  go_ret
  exact ⟨rfl, rfl⟩

set_option maxHeartbeats 400000 in
theorem store_true (b : Nat) (x : Int) (w : World) (hc : w.cell? ⟨b, 0, none⟩ = some (.int .u32 x)) (hz : w.frozen? ⟨b, 0, none⟩ = false) :
    Calls Try.prog 9 #[.pointer (some ⟨b, 0, none⟩), .bool true] w fun e w' => e = .returned (.tuple #[]) ∧ w' = (w.setCell ⟨b, 0, none⟩ (.int .u32 1)).drew := by
  have hst := run_call_store (P := Try.prog) Try.func12 (by kernel_rfl) (by kernel_rfl) (by kernel_rfl) (by kernel_rfl) (k := .u32) (y := 1) (w := w.drew) hc hz
  go_enter Try.func9, Try.ntmps9
  go_wp2
  go_region_with (go_at_call 13; refine (b32_true _).mono ?_; rintro e w' ⟨rfl, rfl⟩)
  go_end0
  exact ⟨rfl, rfl⟩

set_option maxHeartbeats 400000 in
theorem load_any (b : Nat) (x : Int) (w : World) (hc : w.cell? ⟨b, 0, none⟩ = some (.int .u32 x)) :
    Calls Try.prog 11 #[.pointer (some ⟨b, 0, none⟩)] w fun e w' => e = .returned (.bool (x != 0)) ∧ w' = w := by
  have hl := run_call_load (P := Try.prog) Try.func15 (by kernel_rfl) (by kernel_rfl) (by kernel_rfl) .u32 (by kernel_rfl) hc
  go_enter Try.func11, Try.ntmps11
  go_wp2
  go_ret
  exact ⟨rfl, rfl⟩

set_option maxHeartbeats 400000 in
theorem cas_hit (b : Nat) (w : World) (hc : w.cell? ⟨b, 0, none⟩ = some (.int .u32 0)) (hz : w.frozen? ⟨b, 0, none⟩ = false) :
    Calls Try.prog 14 #[.pointer (some ⟨b, 0, none⟩), .bool false, .bool true] w fun e w' => e = .returned (.bool true) ∧ w' = (w.setCell ⟨b, 0, none⟩ (.int .u32 1)).drew := by
  have hcas := run_call_cas_hit (P := Try.prog) Try.func16 (by kernel_rfl) (by kernel_rfl) (by kernel_rfl) .u32 (by kernel_rfl) (y := 1) (w := w.drew) hc hz
  go_enter Try.func14, Try.ntmps14
  go_wp2
  go_region_with (first | (go_at_call_of 13 (Value.bool true); refine (b32_true _).mono ?_; rintro e w' ⟨rfl, rfl⟩) | (go_at_call_of 13 (Value.bool false); refine (b32_false _).mono ?_; rintro e w' ⟨rfl, rfl⟩))
  all_goals
    go_wp2
    go_ret
    exact ⟨rfl, rfl⟩

set_option maxHeartbeats 400000 in
theorem cas_miss (b : Nat) (w : World) (hc : w.cell? ⟨b, 0, none⟩ = some (.int .u32 1)) (hz : w.frozen? ⟨b, 0, none⟩ = false) :
    Calls Try.prog 14 #[.pointer (some ⟨b, 0, none⟩), .bool false, .bool true] w fun e w' => e = .returned (.bool false) ∧ w' = w.drew := by
  have hcas := run_call_cas_miss (P := Try.prog) Try.func16 (by kernel_rfl) (by kernel_rfl) (by kernel_rfl) .u32 (by kernel_rfl) (o := 0) (y := 1) (w := w.drew) hc hz (by omega)
  go_enter Try.func14, Try.ntmps14
  go_wp2
  go_region_with (first | (go_at_call_of 13 (Value.bool true); refine (b32_true _).mono ?_; rintro e w' ⟨rfl, rfl⟩) | (go_at_call_of 13 (Value.bool false); refine (b32_false _).mono ?_; rintro e w' ⟨rfl, rfl⟩))
  all_goals
    go_wp2
    go_ret
    exact ⟨rfl, rfl⟩

set_option maxHeartbeats 400000 in
theorem count_any (p h : Nat) (r : Int) (w : World) (h1 : w.cell? ⟨p, 0, none⟩ = some (.pointer (some ⟨h, 0, none⟩))) (h2 : w.cell? ⟨h, 0, none⟩ = some (.int .i64 r)) (hz : w.frozen? ⟨h, 0, none⟩ = false) (hr : 0 ≤ r) (hr' : r ≤ 65536) :
    Calls Try.prog 8 #[.pointer (some ⟨p, 0, none⟩)] w fun e w' => e = .returned (.tuple #[]) ∧ w' = (w.setCell ⟨h, 0, none⟩ (.int .i64 (r + 1))).drew := by
  go_enter Try.func8, Try.ntmps8
  go_wp2
  go_region
  all_goals
    go_end0
    exact ⟨rfl, rfl⟩

/-- The closure that counts. -/
def counter (p : Nat) : Value := .func (.func 8) #[] #[.pointer (some ⟨p, 0, none⟩)]

set_option maxHeartbeats 400000 in
theorem end_first (c : Nat) (w : World) (h0 : w.cell? ⟨c, 0, none⟩ = some (.int .u32 0)) (hz : w.frozen? ⟨c, 0, none⟩ = false) :
    Calls Try.prog 10 #[.pointer (some ⟨c, 0, none⟩)] w fun e w' => e = .returned (.tuple #[]) ∧ w' = (w.setCell ⟨c, 0, none⟩ (.int .u32 1)).drew := by
  go_enter Try.func10, Try.ntmps10
  go_wp2_with (go_at_call 14; refine (cas_hit c w h0 hz).mono ?_; rintro e w' ⟨rfl, rfl⟩)
  go_end0
  exact ⟨rfl, rfl⟩

set_option maxHeartbeats 400000 in
theorem end_later (c p h : Nat) (r : Int) (w : World) (h0 : w.cell? ⟨c, 0, none⟩ = some (.int .u32 1)) (hz : w.frozen? ⟨c, 0, none⟩ = false) (hf : w.cell? ⟨c, 1, none⟩ = some (counter p))
    (h1 : w.cell? ⟨p, 0, none⟩ = some (.pointer (some ⟨h, 0, none⟩))) (h2 : w.cell? ⟨h, 0, none⟩ = some (.int .i64 r)) (hz2 : w.frozen? ⟨h, 0, none⟩ = false) (hr : 0 ≤ r) (hr' : r ≤ 65536) :
    Calls Try.prog 10 #[.pointer (some ⟨c, 0, none⟩)] w fun e w' => e = .returned (.tuple #[]) ∧ w' = (w.setCell ⟨h, 0, none⟩ (.int .i64 (r + 1))).drew.drew := by
  unfold counter at hf
  go_enter Try.func10, Try.ntmps10
  go_wp2_with (go_at_call 14; refine (cas_miss c w h0 hz).mono ?_; rintro e w' ⟨rfl, rfl⟩)
  refine (count_any p h r w.drew h1 h2 hz2 hr hr').mono ?_
  rintro e w' ⟨rfl, rfl⟩
  go_wp2
  go_end0
  exact ⟨rfl, rfl⟩

/-! ### the shims: l leads to the call's struct c and to the number h -/
set_option maxHeartbeats 400000 in
theorem ZZend_first (l c : Nat) (w : World) (hl : w.cell? ⟨l, 0, none⟩ = some (.pointer (some ⟨c, 0, none⟩))) (h0 : w.cell? ⟨c, 0, none⟩ = some (.int .u32 0)) (hz : w.frozen? ⟨c, 0, none⟩ = false) :
    Calls Try.prog 5 #[.pointer (some ⟨l, 0, none⟩)] w fun e w' => e = .returned (.tuple #[]) ∧ w' = (w.setCell ⟨c, 0, none⟩ (.int .u32 1)).drew := by
  go_enter Try.func5, Try.ntmps5
  go_wp2_with (go_at_call 10; refine (end_first c w h0 hz).mono ?_; rintro e w' ⟨rfl, rfl⟩)
  go_end0
  exact ⟨rfl, rfl⟩
set_option maxHeartbeats 400000 in
theorem ZZend_later (l c p h : Nat) (r : Int) (w : World) (hl : w.cell? ⟨l, 0, none⟩ = some (.pointer (some ⟨c, 0, none⟩))) (h0 : w.cell? ⟨c, 0, none⟩ = some (.int .u32 1)) (hz : w.frozen? ⟨c, 0, none⟩ = false) (hf : w.cell? ⟨c, 1, none⟩ = some (counter p))
    (h1 : w.cell? ⟨p, 0, none⟩ = some (.pointer (some ⟨h, 0, none⟩))) (h2 : w.cell? ⟨h, 0, none⟩ = some (.int .i64 r)) (hz2 : w.frozen? ⟨h, 0, none⟩ = false) (hr : 0 ≤ r) (hr' : r ≤ 65536) :
    Calls Try.prog 5 #[.pointer (some ⟨l, 0, none⟩)] w fun e w' => e = .returned (.tuple #[]) ∧ w' = (w.setCell ⟨h, 0, none⟩ (.int .i64 (r + 1))).drew.drew := by
  go_enter Try.func5, Try.ntmps5
  go_wp2_with (go_at_call 10; refine (end_later c p h r w h0 hz hf h1 h2 hz2 hr hr').mono ?_; rintro e w' ⟨rfl, rfl⟩)
  go_end0
  exact ⟨rfl, rfl⟩
set_option maxHeartbeats 400000 in
theorem runs_any (l h : Nat) (r : Int) (w : World) (hl : w.cell? ⟨l, 1, none⟩ = some (.pointer (some ⟨h, 0, none⟩))) (h2 : w.cell? ⟨h, 0, none⟩ = some (.int .i64 r)) :
    Calls Try.prog 6 #[.pointer (some ⟨l, 0, none⟩)] w fun e w' => e = .returned (.int .i64 r) ∧ w' = w := by
  go_enter Try.func6, Try.ntmps6
  go_wp2
  go_ret
  exact ⟨rfl, rfl⟩
set_option maxHeartbeats 400000 in
theorem claimed_any (l c : Nat) (x : Int) (w : World) (hl : w.cell? ⟨l, 0, none⟩ = some (.pointer (some ⟨c, 0, none⟩))) (h0 : w.cell? ⟨c, 0, none⟩ = some (.int .u32 x)) :
    Calls Try.prog 7 #[.pointer (some ⟨l, 0, none⟩)] w fun e w' => e = .returned (.bool (x != 0)) ∧ w' = w := by
  go_enter Try.func7, Try.ntmps7
  go_wp2_with (go_at_call 11; refine (load_any c x w h0).mono ?_; rintro e w' ⟨rfl, rfl⟩)
  go_ret
  exact ⟨rfl, rfl⟩

end Go.Proofs.Qxb6612886a
