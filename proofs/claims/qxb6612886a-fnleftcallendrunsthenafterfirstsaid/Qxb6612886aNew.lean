/-
  'ZZNewLeftCall': what it lays.
-/
import Derived.Test.Qxb6612886aParts
namespace Go.Proofs.Qxb6612886a
open Go.RowKit

/-- The blocks from h on: the number, the variable that leads to it, the call's struct, the shim's struct. -/
structure LC (w : World) (h : Nat) (x r : Int) : Prop where
  num : w.cell? ⟨h, 0, none⟩ = some (.int .i64 r)
  var : w.cell? ⟨h + 1, 0, none⟩ = some (.pointer (some ⟨h, 0, none⟩))
  flag : w.cell? ⟨h + 1 + 1, 0, none⟩ = some (.int .u32 x)
  fn : w.cell? ⟨h + 1 + 1, 1, none⟩ = some (counter (h + 1))
  toc : w.cell? ⟨h + 1 + 1 + 1, 0, none⟩ = some (.pointer (some ⟨h + 1 + 1, 0, none⟩))
  ton : w.cell? ⟨h + 1 + 1 + 1, 1, none⟩ = some (.pointer (some ⟨h, 0, none⟩))
  z1 : w.frozen? ⟨h, 0, none⟩ = false
  z2 : w.frozen? ⟨h + 1 + 1, 0, none⟩ = false

theorem LC.drew {w : World} {h : Nat} {x r : Int} (L : LC w h x r) : LC w.drew h x r := ⟨L.num, L.var, L.flag, L.fn, L.toc, L.ton, L.z1, L.z2⟩
theorem LC.take {w : World} {h : Nat} {x r : Int} (L : LC w h x r) : LC (w.setCell ⟨h + 1 + 1, 0, none⟩ (.int .u32 1)) h 1 r :=
  ⟨(World.cell?_setCell_other _ _ _ _ (by simp)).trans L.num, (World.cell?_setCell_other _ _ _ _ (by simp)).trans L.var, World.cell?_setCell_same _ _ _ L.flag, (World.cell?_setCell_other _ _ _ _ (by simp)).trans L.fn,
    (World.cell?_setCell_other _ _ _ _ (by simp)).trans L.toc, (World.cell?_setCell_other _ _ _ _ (by simp)).trans L.ton, by simp [L.z1], by simp [L.z2]⟩
theorem LC.count {w : World} {h : Nat} {x r : Int} (L : LC w h x r) (y : Int) : LC (w.setCell ⟨h, 0, none⟩ (.int .i64 y)) h x y :=
  ⟨World.cell?_setCell_same _ _ _ L.num, (World.cell?_setCell_other _ _ _ _ (by simp)).trans L.var, (World.cell?_setCell_other _ _ _ _ (by simp)).trans L.flag, (World.cell?_setCell_other _ _ _ _ (by simp)).trans L.fn,
    (World.cell?_setCell_other _ _ _ _ (by simp)).trans L.toc, (World.cell?_setCell_other _ _ _ _ (by simp)).trans L.ton, by simp [L.z1], by simp [L.z2]⟩

theorem lc4 (w : World) (x : Int) : LC ((((w.alloc (.cells #[.int .i64 0] 3)).alloc (.cells #[.pointer (some ⟨w.heap.size, 0, none⟩)] 28)).alloc (.cells #[.int .u32 x, .func (.func 8) #[] #[.pointer (some ⟨w.heap.size + 1, 0, none⟩)]] 36)).alloc (.cells #[.pointer (some ⟨w.heap.size + 1 + 1, 0, none⟩), .pointer (some ⟨w.heap.size, 0, none⟩)] 39)) w.heap.size x 0 := by
  have e0 : ((((w.alloc (.cells #[.int .i64 0] 3)).alloc (.cells #[.pointer (some ⟨w.heap.size, 0, none⟩)] 28)).alloc (.cells #[.int .u32 x, .func (.func 8) #[] #[.pointer (some ⟨w.heap.size + 1, 0, none⟩)]] 36)).alloc (.cells #[.pointer (some ⟨w.heap.size + 1 + 1, 0, none⟩), .pointer (some ⟨w.heap.size, 0, none⟩)] 39)).heap[w.heap.size]? = some (.cells #[.int .i64 0] 3) := by
    show ((((w.heap.push _).push _).push _).push _)[w.heap.size]? = _
    rw [Array.getElem?_push, if_neg (by simp; omega), Array.getElem?_push, if_neg (by simp; omega), Array.getElem?_push, if_neg (by simp), Array.getElem?_push, if_pos rfl]
  have e1 : ((((w.alloc (.cells #[.int .i64 0] 3)).alloc (.cells #[.pointer (some ⟨w.heap.size, 0, none⟩)] 28)).alloc (.cells #[.int .u32 x, .func (.func 8) #[] #[.pointer (some ⟨w.heap.size + 1, 0, none⟩)]] 36)).alloc (.cells #[.pointer (some ⟨w.heap.size + 1 + 1, 0, none⟩), .pointer (some ⟨w.heap.size, 0, none⟩)] 39)).heap[w.heap.size + 1]? = some (.cells #[.pointer (some ⟨w.heap.size, 0, none⟩)] 28) := by
    show ((((w.heap.push _).push _).push _).push _)[w.heap.size + 1]? = _
    rw [Array.getElem?_push, if_neg (by simp), Array.getElem?_push, if_neg (by simp), Array.getElem?_push, if_pos (by simp)]
  have e2 : ((((w.alloc (.cells #[.int .i64 0] 3)).alloc (.cells #[.pointer (some ⟨w.heap.size, 0, none⟩)] 28)).alloc (.cells #[.int .u32 x, .func (.func 8) #[] #[.pointer (some ⟨w.heap.size + 1, 0, none⟩)]] 36)).alloc (.cells #[.pointer (some ⟨w.heap.size + 1 + 1, 0, none⟩), .pointer (some ⟨w.heap.size, 0, none⟩)] 39)).heap[w.heap.size + 1 + 1]? = some (.cells #[.int .u32 x, .func (.func 8) #[] #[.pointer (some ⟨w.heap.size + 1, 0, none⟩)]] 36) := by
    show ((((w.heap.push _).push _).push _).push _)[w.heap.size + 1 + 1]? = _
    rw [Array.getElem?_push, if_neg (by simp), Array.getElem?_push, if_pos (by simp)]
  have e3 : ((((w.alloc (.cells #[.int .i64 0] 3)).alloc (.cells #[.pointer (some ⟨w.heap.size, 0, none⟩)] 28)).alloc (.cells #[.int .u32 x, .func (.func 8) #[] #[.pointer (some ⟨w.heap.size + 1, 0, none⟩)]] 36)).alloc (.cells #[.pointer (some ⟨w.heap.size + 1 + 1, 0, none⟩), .pointer (some ⟨w.heap.size, 0, none⟩)] 39)).heap[w.heap.size + 1 + 1 + 1]? = some (.cells #[.pointer (some ⟨w.heap.size + 1 + 1, 0, none⟩), .pointer (some ⟨w.heap.size, 0, none⟩)] 39) := by
    show ((((w.heap.push _).push _).push _).push _)[w.heap.size + 1 + 1 + 1]? = _
    rw [Array.getElem?_push, if_pos (by simp)]
  refine ⟨?_, ?_, ?_, ?_, ?_, ?_, ?_, ?_⟩
  · simp only [World.cell?, e0]; rfl
  · simp only [World.cell?, e1]; rfl
  · simp only [World.cell?, e2]; rfl
  · simp only [World.cell?, e2]; rfl
  · simp only [World.cell?, e3]; rfl
  · simp only [World.cell?, e3]; rfl
  · simp only [World.frozen?, e0]; rfl
  · simp only [World.frozen?, e2]; rfl

set_option maxHeartbeats 400000 in
theorem new_false (w : World) :
    Calls Try.prog 4 #[.bool false] w fun e w' => e = .returned (.pointer (some ⟨w.heap.size + 1 + 1 + 1, 0, none⟩)) ∧ LC w' w.heap.size 0 0 ∧ Grown w w' := by
  have hmf : ∀ (fn : Fn) (first cap : Array Value) (w : World), (Instr.makeFunc fn first cap).run Try.prog w = .ok (.func fn first cap) w := fun _ _ _ _ => rfl
  go_enter Try.func4, Try.ntmps4
  go_wp2
  go_ret
  exact ⟨rfl, lc4 w 0, ((((Grown.refl _).alloc _ _).alloc _ _).alloc _ _).alloc _ _⟩
set_option maxHeartbeats 400000 in
theorem new_true (w : World) :
    Calls Try.prog 4 #[.bool true] w fun e w' => e = .returned (.pointer (some ⟨w.heap.size + 1 + 1 + 1, 0, none⟩)) ∧ LC w' w.heap.size 1 0 ∧ Grown w w' := by
  have hmf : ∀ (fn : Fn) (first cap : Array Value) (w : World), (Instr.makeFunc fn first cap).run Try.prog w = .ok (.func fn first cap) w := fun _ _ _ _ => rfl
  go_enter Try.func4, Try.ntmps4
  go_wp2_with fail
  refine (store_true _ 0 _ ?_ ?_).mono ?_
  · go_simp
  · go_simp
  rintro e w' ⟨rfl, rfl⟩
  go_wp2
  go_ret
  exact ⟨rfl, (lc4 w 1).drew, ((((((Grown.refl _).alloc _ _).alloc _ _).alloc _ _).alloc _ _)).drew⟩
end Go.Proofs.Qxb6612886a
