/-
  'kind' by the text's first byte; 'zzBytes'; small bridges.
-/
import Derived.Test.Qxb6609255aShims
import Derived.Test.Qxb6609255aInt
namespace Go.Proofs.Qxb6609255a
open Go.RowKit

def IsBool (e : Ending) : Prop := ∃ b, e = .returned (.bool b)

set_option maxHeartbeats 400000 in
theorem bytes5 (a0 a2 a4 : Int) (a1 : ByteArray) (a3 : Bool) (w1 : a1.size ≤ maxLen) (w : World) :
    Calls Try.prog 5 #[.int .u8 a0, .string a1, .int .i64 a2, .bool a3, .int .i64 a4] w fun e w' => IsBool e ∧ w' = w := by
  unfold maxLen at w1
  go_enter Try.func5, Try.ntmps5
  go_wp2
  all_goals
    go_ret
    exact ⟨⟨_, rfl⟩, rfl⟩


set_option maxHeartbeats 400000 in
theorem kind_object (g n cap : Nat) (w : World) (hn : 0 < n) (hc : w.cell? ⟨g, 0, none⟩ = some (.int .u8 123)) :
    Calls Try.prog 14 #[.slice (some ⟨g, 0, none⟩) n cap] w fun e w' => e = .returned (.string ⟨#[111, 98, 106, 101, 99, 116]⟩) ∧ w' = w := by
  have hn' : (0 : Int) < (n : Int) := by omega
  go_enter Try.func14, Try.ntmps14
  go_wp2
  go_ret
  exact ⟨rfl, rfl⟩

set_option maxHeartbeats 400000 in
theorem kind_array (g n cap : Nat) (w : World) (hn : 0 < n) (hc : w.cell? ⟨g, 0, none⟩ = some (.int .u8 91)) :
    Calls Try.prog 14 #[.slice (some ⟨g, 0, none⟩) n cap] w fun e w' => e = .returned (.string ⟨#[97, 114, 114, 97, 121]⟩) ∧ w' = w := by
  have hn' : (0 : Int) < (n : Int) := by omega
  go_enter Try.func14, Try.ntmps14
  go_wp2
  go_ret
  exact ⟨rfl, rfl⟩

set_option maxHeartbeats 400000 in
theorem kind_string (g n cap : Nat) (w : World) (hn : 0 < n) (hc : w.cell? ⟨g, 0, none⟩ = some (.int .u8 34)) :
    Calls Try.prog 14 #[.slice (some ⟨g, 0, none⟩) n cap] w fun e w' => e = .returned (.string ⟨#[115, 116, 114, 105, 110, 103]⟩) ∧ w' = w := by
  have hn' : (0 : Int) < (n : Int) := by omega
  go_enter Try.func14, Try.ntmps14
  go_wp2
  go_ret
  exact ⟨rfl, rfl⟩

set_option maxHeartbeats 400000 in
theorem kind_true (g n cap : Nat) (w : World) (hn : 0 < n) (hc : w.cell? ⟨g, 0, none⟩ = some (.int .u8 116)) :
    Calls Try.prog 14 #[.slice (some ⟨g, 0, none⟩) n cap] w fun e w' => e = .returned (.string ⟨#[98, 111, 111, 108, 101, 97, 110]⟩) ∧ w' = w := by
  have hn' : (0 : Int) < (n : Int) := by omega
  go_enter Try.func14, Try.ntmps14
  go_wp2
  go_ret
  exact ⟨rfl, rfl⟩

set_option maxHeartbeats 400000 in
theorem kind_false (g n cap : Nat) (w : World) (hn : 0 < n) (hc : w.cell? ⟨g, 0, none⟩ = some (.int .u8 102)) :
    Calls Try.prog 14 #[.slice (some ⟨g, 0, none⟩) n cap] w fun e w' => e = .returned (.string ⟨#[98, 111, 111, 108, 101, 97, 110]⟩) ∧ w' = w := by
  have hn' : (0 : Int) < (n : Int) := by omega
  go_enter Try.func14, Try.ntmps14
  go_wp2
  go_ret
  exact ⟨rfl, rfl⟩

set_option maxHeartbeats 400000 in
theorem kind_null (g n cap : Nat) (w : World) (hn : 0 < n) (hc : w.cell? ⟨g, 0, none⟩ = some (.int .u8 110)) :
    Calls Try.prog 14 #[.slice (some ⟨g, 0, none⟩) n cap] w fun e w' => e = .returned (.string ⟨#[110, 117, 108, 108]⟩) ∧ w' = w := by
  have hn' : (0 : Int) < (n : Int) := by omega
  go_enter Try.func14, Try.ntmps14
  go_wp2
  go_ret
  exact ⟨rfl, rfl⟩

set_option maxHeartbeats 400000 in
theorem kind_number (g n cap : Nat) (c : Int) (h : c = 45 ∨ (48 ≤ c ∧ c ≤ 57)) (w : World) (hn : 0 < n) (hc : w.cell? ⟨g, 0, none⟩ = some (.int .u8 c)) :
    Calls Try.prog 14 #[.slice (some ⟨g, 0, none⟩) n cap] w fun e w' => e = .returned (.string ⟨#[110, 117, 109, 98, 101, 114]⟩) ∧ w' = w := by
  have hn' : (0 : Int) < (n : Int) := by omega
  have e0 : (c == 123) = false := by simp; omega
  have e1 : (c == 91) = false := by simp; omega
  have e2 : (c == 34) = false := by simp; omega
  have e3 : (c == 116) = false := by simp; omega
  have e4 : (c == 102) = false := by simp; omega
  have e5 : (c == 110) = false := by simp; omega
  clear h
  go_enter Try.func14, Try.ntmps14
  go_wp2
  go_ret
  exact ⟨rfl, rfl⟩

/-- The first byte of a row that the call owns. -/
theorem first_byte {w : World} {base g n cap : Nat} {h : Value} {ys : List Value} (ho : w.ownsRow base 5 1 (.slice (some ⟨g, 0, none⟩) n cap) n (h :: ys)) : 0 < n ∧ w.cell? ⟨g, 0, none⟩ = some h := by
  have hl := ho.1
  simp at hl
  refine ⟨by omega, ?_⟩
  rw [ho.cellAt 0 (by omega)]
  rfl

theorem row_lt {w : World} {base g n cap : Nat} {xs : List Value} (ho : w.ownsRow base 5 1 (.slice (some ⟨g, 0, none⟩) n cap) n xs) : g < w.heap.size := by
  rcases ho.2 with ⟨h, _⟩ | ⟨g', cap', cur, h, _, hg, _⟩
  · cases h
  · cases h
    exact (Array.getElem?_eq_some_iff.1 hg).1

theorem cell_below {w w' : World} {g : Nat} {x : Value} (h : w.cell? ⟨g, 0, none⟩ = some x) (hg : g < w.heap.size) (hB : Below w.heap.size w w') : w'.cell? ⟨g, 0, none⟩ = some x := (hB.cell (p := ⟨g, 0, none⟩) hg).trans h

/-- A slice literal of one byte. -/
theorem own_one (w : World) (x : Value) : (w.alloc (.cells #[x] 5)).ownsRow w.heap.size 5 1 (.slice (some ⟨w.heap.size, 0, none⟩) 1 1) 1 [x] :=
  ⟨rfl, Or.inr ⟨w.heap.size, 1, #[x], rfl, Nat.le_refl _, heap_alloc_new w _, Nat.le_refl _, by unfold maxLen; omega, rfl, rfl⟩⟩
end Go.Proofs.Qxb6609255a
