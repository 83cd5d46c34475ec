/-
  The shims round 'kindOf': each hands one plain value over.
-/
import Derived.Test.Qxb6609255aKinds
import Derived.MapKept
namespace Go.Proofs.Qxb6609255a
open Go.RowKit

theorem info20 : (Try.prog.info? 20).map (fun i => (i.zero, i.size, i.bytes)) = some (some .nilIface, 1, 16) := by kernel_rfl
theorem info9 : (Try.prog.info? 9).map (fun i => (i.zero, i.size, i.bytes)) = some (some (.string ByteArray.empty), 1, 16) := by kernel_rfl

/-- The first entry of a map that has just been made. -/
theorem first_entry {t et : TypeId} (hm : Try.prog.underlying t = some (.map 9 et)) (k : ByteArray) (v : Value) (w : World) :
    (Instr.mapUpdate t (.map (some w.heap.size)) (.string k) v).run Try.prog (w.alloc (.map #[] 0)) = .ok () (w.alloc (.map #[{ key := .string k, val := v, born := 0 }] 1)) := by
  have hb : (w.alloc (.map #[] 0)).heap[w.heap.size]? = some (.map #[] 0) := (MapKept.heap_alloc w _).1
  have hk : MapKept.IsKey .string (.string k) := trivial
  have hf : Instr.findNow .string (.string k) (#[] : Array MapEntry).toList 0 = some none := rfl
  simp only [Instr.mapUpdate, Sem.run_bind, run_underlying hm, MapKept.run_getObj_map hb, MapKept.run_checkKey Try.underlying9 hk, MapKept.run_findKey Try.underlying9 hf, MapKept.run_setObj_map _ hb, Result.andThen]
  congr 1
  simp only [World.alloc]
  congr 1
  apply Array.ext_getElem?
  intro i
  by_cases e : i = w.heap.size
  · subst e; simp
  · rw [Array.getElem?_setIfInBounds_ne (Ne.symm e), Array.getElem?_push, Array.getElem?_push, if_neg e, if_neg e]

set_option maxHeartbeats 400000 in
theorem zString (s : ByteArray) (w : World) : Calls Try.prog 7 #[.string s] w fun e w' => e = .returned (.string ⟨#[115, 116, 114, 105, 110, 103]⟩) ∧ w' = w := by
  go_enter Try.func7, Try.ntmps7
  go_wp2_with (go_at_call 24; refine (kindOf_9 _ _).mono ?_; rintro e w' ⟨rfl, rfl⟩)
  go_ret
  exact ⟨rfl, rfl⟩

set_option maxHeartbeats 400000 in
theorem zFloat64 (f : Nat) (w : World) : Calls Try.prog 9 #[.float .f64 f] w fun e w' => e = .returned (.string ⟨#[110, 117, 109, 98, 101, 114]⟩) ∧ w' = w := by
  go_enter Try.func9, Try.ntmps9
  go_wp2_with (go_at_call 24; refine (kindOf_28 _ _).mono ?_; rintro e w' ⟨rfl, rfl⟩)
  go_ret
  exact ⟨rfl, rfl⟩

set_option maxHeartbeats 400000 in
theorem zBool (b : Bool) (w : World) : Calls Try.prog 10 #[.bool b] w fun e w' => e = .returned (.string ⟨#[98, 111, 111, 108, 101, 97, 110]⟩) ∧ w' = w := by
  go_enter Try.func10, Try.ntmps10
  go_wp2_with (go_at_call 24; refine (kindOf_4 _ _).mono ?_; rintro e w' ⟨rfl, rfl⟩)
  go_ret
  exact ⟨rfl, rfl⟩

set_option maxHeartbeats 400000 in
theorem zNil (w : World) : Calls Try.prog 11 #[] w fun e w' => e = .returned (.string ⟨#[110, 117, 108, 108]⟩) ∧ w' = w := by
  go_enter Try.func11, Try.ntmps11
  go_wp2_with (go_at_call 24; refine (kindOf_nil _).mono ?_; rintro e w' ⟨rfl, rfl⟩)
  go_ret
  exact ⟨rfl, rfl⟩

set_option maxHeartbeats 400000 in
theorem zNilList (w : World) : Calls Try.prog 16 #[] w fun e w' => e = .returned (.string ⟨#[97, 114, 114, 97, 121]⟩) ∧ w' = w := by
  go_enter Try.func16, Try.ntmps16
  go_wp2_with (go_at_call 24; refine (kindOf_43 _ _).mono ?_; rintro e w' ⟨rfl, rfl⟩)
  go_ret
  exact ⟨rfl, rfl⟩

set_option maxHeartbeats 400000 in
theorem zNilObject (w : World) : Calls Try.prog 17 #[] w fun e w' => e = .returned (.string ⟨#[111, 98, 106, 101, 99, 116]⟩) ∧ w' = w := by
  go_enter Try.func17, Try.ntmps17
  go_wp2_with (go_at_call 24; refine (kindOf_44 _ _).mono ?_; rintro e w' ⟨rfl, rfl⟩)
  go_ret
  exact ⟨rfl, rfl⟩

set_option maxHeartbeats 400000 in
theorem zFloat32 (f : Nat) (w : World) : Calls Try.prog 18 #[.float .f32 f] w fun e w' => e = .returned (.string ⟨#[]⟩) ∧ w' = w := by
  go_enter Try.func18, Try.ntmps18
  go_wp2_with (go_at_call 24; refine (kindOf_34 _ _).mono ?_; rintro e w' ⟨rfl, rfl⟩)
  go_ret
  exact ⟨rfl, rfl⟩

set_option maxHeartbeats 400000 in
theorem zInt (i : Int) (w : World) : Calls Try.prog 22 #[.int .i64 i] w fun e w' => e = .returned (.string ⟨#[]⟩) ∧ w' = w := by
  go_enter Try.func22, Try.ntmps22
  go_wp2_with (go_at_call 24; refine (kindOf_3 _ _).mono ?_; rintro e w' ⟨rfl, rfl⟩)
  go_ret
  exact ⟨rfl, rfl⟩

set_option maxHeartbeats 400000 in
theorem zInt64 (i : Int) (w : World) : Calls Try.prog 23 #[.int .i64 i] w fun e w' => e = .returned (.string ⟨#[]⟩) ∧ w' = w := by
  go_enter Try.func23, Try.ntmps23
  go_wp2_with (go_at_call 24; refine (kindOf_2 _ _).mono ?_; rintro e w' ⟨rfl, rfl⟩)
  go_ret
  exact ⟨rfl, rfl⟩

set_option maxHeartbeats 400000 in
theorem zList (n : Nat) (hn : n ≤ 65536) (w : World) : Calls Try.prog 12 #[.int .i64 n] w fun e w' => e = .returned (.string ⟨#[97, 114, 114, 97, 121]⟩) ∧ Below w.heap.size w w' := by
  have hmk := fun w => run_make_row' (P := Try.prog) 43 20 .nilIface 16 Try.underlying43 info20 rfl .i64 .i64 n (by omega) (by omega) w
  go_enter Try.func12, Try.ntmps12
  go_wp2_with (go_at_call 24; refine (kindOf_43 _ _).mono ?_; rintro e w' ⟨rfl, rfl⟩)
  go_ret
  exact ⟨rfl, (Below.refl _ _).alloc (Nat.le_refl _) _⟩

set_option maxHeartbeats 400000 in
theorem zStrings (n : Nat) (hn : n ≤ 65536) (w : World) : Calls Try.prog 19 #[.int .i64 n] w fun e w' => e = .returned (.string ⟨#[]⟩) ∧ Below w.heap.size w w' := by
  have hmk := fun w => run_make_row' (P := Try.prog) 45 9 (.string ByteArray.empty) 16 Try.underlying45 info9 rfl .i64 .i64 n (by omega) (by omega) w
  go_enter Try.func19, Try.ntmps19
  go_wp2_with (go_at_call 24; refine (kindOf_45 _ _).mono ?_; rintro e w' ⟨rfl, rfl⟩)
  go_ret
  exact ⟨rfl, (Below.refl _ _).alloc (Nat.le_refl _) _⟩

set_option maxHeartbeats 400000 in
theorem zObject (k : ByteArray) (f : Nat) (w : World) : Calls Try.prog 13 #[.string k, .float .f64 f] w fun e w' => e = .returned (.string ⟨#[111, 98, 106, 101, 99, 116]⟩) ∧ Below w.heap.size w w' := by
  have hmm := @run_makeMap Try.prog
  have hin := first_entry Try.underlying44 k (.iface 28 (.float .f64 f)) w
  go_enter Try.func13, Try.ntmps13
  go_wp2_with (go_at_call 24; refine (kindOf_44 _ _).mono ?_; rintro e w' ⟨rfl, rfl⟩)
  go_ret
  exact ⟨rfl, (Below.refl _ _).alloc (Nat.le_refl _) _⟩

set_option maxHeartbeats 400000 in
theorem zStringMap (k v : ByteArray) (w : World) : Calls Try.prog 20 #[.string k, .string v] w fun e w' => e = .returned (.string ⟨#[]⟩) ∧ Below w.heap.size w w' := by
  have hmm := @run_makeMap Try.prog
  have hin := first_entry Try.underlying46 k (.string v) w
  go_enter Try.func20, Try.ntmps20
  go_wp2_with (go_at_call 24; refine (kindOf_46 _ _).mono ?_; rintro e w' ⟨rfl, rfl⟩)
  go_ret
  exact ⟨rfl, (Below.refl _ _).alloc (Nat.le_refl _) _⟩

set_option maxHeartbeats 400000 in
theorem zStringPointer (s : ByteArray) (w : World) : Calls Try.prog 21 #[.string s] w fun e w' => e = .returned (.string ⟨#[]⟩) ∧ Below w.heap.size w w' := by
  go_enter Try.func21, Try.ntmps21
  go_wp2_with (go_at_call 24; refine (kindOf_47 _ _).mono ?_; rintro e w' ⟨rfl, rfl⟩)
  go_ret
  exact ⟨rfl, (Below.refl _ _).alloc (Nat.le_refl _) _⟩
end Go.Proofs.Qxb6609255a
