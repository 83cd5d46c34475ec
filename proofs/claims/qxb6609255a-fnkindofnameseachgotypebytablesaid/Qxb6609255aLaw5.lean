/-
  'FnKindOfNamesEachGoTypeByTable': the walk, tag by tag.
-/
import Derived.Test.Qxb6609255aShims
namespace Go.Proofs.Qxb6609255a
open Go.RowKit

def IsB (e : Ending) : Prop := ∃ b, e = .returned (.bool b)
/-- The law's end: true, and nothing that was there has turned. -/
def Well (w : World) (e : Ending) (w' : World) : Prop := e = .returned (.bool true) ∧ Below w.heap.size w w'

set_option maxHeartbeats 400000 in
theorem bytes15 (a0 a4 a6 : Int) (a1 : ByteArray) (a2 a5 : Nat) (a3 : Bool) (w1 : a1.size ≤ maxLen) (w : World) :
    Calls Try.prog 15 #[.int .u8 a0, .string a1, .float .f64 a2, .bool a3, .int .i64 a4, .float .f32 a5, .int .i64 a6] w fun e w' => IsB e ∧ w' = w := by
  unfold maxLen at w1
  go_enter Try.func15, Try.ntmps15
  go_wp2
  all_goals
    go_ret
    exact ⟨⟨_, rfl⟩, rfl⟩

set_option maxRecDepth 10000 in
set_option maxHeartbeats 1000000 in
theorem row0 (s : ByteArray) (f g : Nat) (b : Bool) (i : Int) (n : Nat) (hs : s.size ≤ 1048576) (hn : n ≤ 65536) (w : World) :
    Calls Try.prog 4 #[.int .u8 0, .string s, .float .f64 f, .bool b, .int .i64 i, .float .f32 g, .int .i64 n] w fun e w' => Well w e w' := by
  have hby := bytes15 0 i n s f g b (by unfold maxLen; omega) w
  have hs' : ¬ (1048576 : Int) < (s.size : Int) := by omega
  have hn0 : ¬ (n : Int) < 0 := by omega
  have hn1 : ¬ (65536 : Int) < (n : Int) := by omega
  go_enter Try.func4, Try.ntmps4
  go_wp2_with fail
  refine hby.mono ?_
  rintro e w' ⟨⟨ok, rfl⟩, rfl⟩
  cases ok
  · go_wp2
    go_ret
    exact ⟨rfl, Below.refl _ _⟩
  clear hby
  go_wp2_with fail
  refine (zString s _).mono ?_
  rintro e w1 ⟨rfl, rfl⟩
  go_wp2
  go_ret
  exact ⟨rfl, Below.refl _ _⟩

set_option maxRecDepth 10000 in
set_option maxHeartbeats 1000000 in
theorem row1 (s : ByteArray) (f g : Nat) (b : Bool) (i : Int) (n : Nat) (hs : s.size ≤ 1048576) (hn : n ≤ 65536) (w : World) :
    Calls Try.prog 4 #[.int .u8 1, .string s, .float .f64 f, .bool b, .int .i64 i, .float .f32 g, .int .i64 n] w fun e w' => Well w e w' := by
  have hby := bytes15 1 i n s f g b (by unfold maxLen; omega) w
  have hs' : ¬ (1048576 : Int) < (s.size : Int) := by omega
  have hn0 : ¬ (n : Int) < 0 := by omega
  have hn1 : ¬ (65536 : Int) < (n : Int) := by omega
  go_enter Try.func4, Try.ntmps4
  go_wp2_with fail
  refine hby.mono ?_
  rintro e w' ⟨⟨ok, rfl⟩, rfl⟩
  cases ok
  · go_wp2
    go_ret
    exact ⟨rfl, Below.refl _ _⟩
  clear hby
  go_wp2_with fail
  refine (zFloat64 f _).mono ?_
  rintro e w1 ⟨rfl, rfl⟩
  go_wp2
  go_ret
  exact ⟨rfl, Below.refl _ _⟩

set_option maxRecDepth 10000 in
set_option maxHeartbeats 1000000 in
theorem row2 (s : ByteArray) (f g : Nat) (b : Bool) (i : Int) (n : Nat) (hs : s.size ≤ 1048576) (hn : n ≤ 65536) (w : World) :
    Calls Try.prog 4 #[.int .u8 2, .string s, .float .f64 f, .bool b, .int .i64 i, .float .f32 g, .int .i64 n] w fun e w' => Well w e w' := by
  have hby := bytes15 2 i n s f g b (by unfold maxLen; omega) w
  have hs' : ¬ (1048576 : Int) < (s.size : Int) := by omega
  have hn0 : ¬ (n : Int) < 0 := by omega
  have hn1 : ¬ (65536 : Int) < (n : Int) := by omega
  go_enter Try.func4, Try.ntmps4
  go_wp2_with fail
  refine hby.mono ?_
  rintro e w' ⟨⟨ok, rfl⟩, rfl⟩
  cases ok
  · go_wp2
    go_ret
    exact ⟨rfl, Below.refl _ _⟩
  clear hby
  go_wp2_with fail
  refine (zBool b _).mono ?_
  rintro e w1 ⟨rfl, rfl⟩
  go_wp2
  go_ret
  exact ⟨rfl, Below.refl _ _⟩

set_option maxRecDepth 10000 in
set_option maxHeartbeats 1000000 in
theorem row3 (s : ByteArray) (f g : Nat) (b : Bool) (i : Int) (n : Nat) (hs : s.size ≤ 1048576) (hn : n ≤ 65536) (w : World) :
    Calls Try.prog 4 #[.int .u8 3, .string s, .float .f64 f, .bool b, .int .i64 i, .float .f32 g, .int .i64 n] w fun e w' => Well w e w' := by
  have hby := bytes15 3 i n s f g b (by unfold maxLen; omega) w
  have hs' : ¬ (1048576 : Int) < (s.size : Int) := by omega
  have hn0 : ¬ (n : Int) < 0 := by omega
  have hn1 : ¬ (65536 : Int) < (n : Int) := by omega
  go_enter Try.func4, Try.ntmps4
  go_wp2_with fail
  refine hby.mono ?_
  rintro e w' ⟨⟨ok, rfl⟩, rfl⟩
  cases ok
  · go_wp2
    go_ret
    exact ⟨rfl, Below.refl _ _⟩
  clear hby
  go_wp2_with fail
  refine (zNil _).mono ?_
  rintro e w1 ⟨rfl, rfl⟩
  go_wp2
  go_ret
  exact ⟨rfl, Below.refl _ _⟩

set_option maxRecDepth 10000 in
set_option maxHeartbeats 1000000 in
theorem row4 (s : ByteArray) (f g : Nat) (b : Bool) (i : Int) (n : Nat) (hs : s.size ≤ 1048576) (hn : n ≤ 65536) (w : World) :
    Calls Try.prog 4 #[.int .u8 4, .string s, .float .f64 f, .bool b, .int .i64 i, .float .f32 g, .int .i64 n] w fun e w' => Well w e w' := by
  have hby := bytes15 4 i n s f g b (by unfold maxLen; omega) w
  have hs' : ¬ (1048576 : Int) < (s.size : Int) := by omega
  have hn0 : ¬ (n : Int) < 0 := by omega
  have hn1 : ¬ (65536 : Int) < (n : Int) := by omega
  go_enter Try.func4, Try.ntmps4
  go_wp2_with fail
  refine hby.mono ?_
  rintro e w' ⟨⟨ok, rfl⟩, rfl⟩
  cases ok
  · go_wp2
    go_ret
    exact ⟨rfl, Below.refl _ _⟩
  clear hby
  go_wp2_with fail
  refine (zList n hn _).mono ?_
  rintro e w1 ⟨rfl, hB⟩
  go_wp2
  go_ret
  exact ⟨rfl, hB⟩

set_option maxRecDepth 10000 in
set_option maxHeartbeats 1000000 in
theorem row5 (s : ByteArray) (f g : Nat) (b : Bool) (i : Int) (n : Nat) (hs : s.size ≤ 1048576) (hn : n ≤ 65536) (w : World) :
    Calls Try.prog 4 #[.int .u8 5, .string s, .float .f64 f, .bool b, .int .i64 i, .float .f32 g, .int .i64 n] w fun e w' => Well w e w' := by
  have hby := bytes15 5 i n s f g b (by unfold maxLen; omega) w
  have hs' : ¬ (1048576 : Int) < (s.size : Int) := by omega
  have hn0 : ¬ (n : Int) < 0 := by omega
  have hn1 : ¬ (65536 : Int) < (n : Int) := by omega
  go_enter Try.func4, Try.ntmps4
  go_wp2_with fail
  refine hby.mono ?_
  rintro e w' ⟨⟨ok, rfl⟩, rfl⟩
  cases ok
  · go_wp2
    go_ret
    exact ⟨rfl, Below.refl _ _⟩
  clear hby
  go_wp2_with fail
  refine (zNilList _).mono ?_
  rintro e w1 ⟨rfl, rfl⟩
  go_wp2
  go_ret
  exact ⟨rfl, Below.refl _ _⟩

set_option maxRecDepth 10000 in
set_option maxHeartbeats 1000000 in
theorem row6 (s : ByteArray) (f g : Nat) (b : Bool) (i : Int) (n : Nat) (hs : s.size ≤ 1048576) (hn : n ≤ 65536) (w : World) :
    Calls Try.prog 4 #[.int .u8 6, .string s, .float .f64 f, .bool b, .int .i64 i, .float .f32 g, .int .i64 n] w fun e w' => Well w e w' := by
  have hby := bytes15 6 i n s f g b (by unfold maxLen; omega) w
  have hs' : ¬ (1048576 : Int) < (s.size : Int) := by omega
  have hn0 : ¬ (n : Int) < 0 := by omega
  have hn1 : ¬ (65536 : Int) < (n : Int) := by omega
  go_enter Try.func4, Try.ntmps4
  go_wp2_with fail
  refine hby.mono ?_
  rintro e w' ⟨⟨ok, rfl⟩, rfl⟩
  cases ok
  · go_wp2
    go_ret
    exact ⟨rfl, Below.refl _ _⟩
  clear hby
  go_wp2_with fail
  refine (zObject s f _).mono ?_
  rintro e w1 ⟨rfl, hB⟩
  go_wp2
  go_ret
  exact ⟨rfl, hB⟩

set_option maxRecDepth 10000 in
set_option maxHeartbeats 1000000 in
theorem row7 (s : ByteArray) (f g : Nat) (b : Bool) (i : Int) (n : Nat) (hs : s.size ≤ 1048576) (hn : n ≤ 65536) (w : World) :
    Calls Try.prog 4 #[.int .u8 7, .string s, .float .f64 f, .bool b, .int .i64 i, .float .f32 g, .int .i64 n] w fun e w' => Well w e w' := by
  have hby := bytes15 7 i n s f g b (by unfold maxLen; omega) w
  have hs' : ¬ (1048576 : Int) < (s.size : Int) := by omega
  have hn0 : ¬ (n : Int) < 0 := by omega
  have hn1 : ¬ (65536 : Int) < (n : Int) := by omega
  go_enter Try.func4, Try.ntmps4
  go_wp2_with fail
  refine hby.mono ?_
  rintro e w' ⟨⟨ok, rfl⟩, rfl⟩
  cases ok
  · go_wp2
    go_ret
    exact ⟨rfl, Below.refl _ _⟩
  clear hby
  go_wp2_with fail
  refine (zNilObject _).mono ?_
  rintro e w1 ⟨rfl, rfl⟩
  go_wp2
  go_ret
  exact ⟨rfl, Below.refl _ _⟩

set_option maxRecDepth 10000 in
set_option maxHeartbeats 1000000 in
theorem row8 (s : ByteArray) (f g : Nat) (b : Bool) (i : Int) (n : Nat) (hs : s.size ≤ 1048576) (hn : n ≤ 65536) (w : World) :
    Calls Try.prog 4 #[.int .u8 8, .string s, .float .f64 f, .bool b, .int .i64 i, .float .f32 g, .int .i64 n] w fun e w' => Well w e w' := by
  have hby := bytes15 8 i n s f g b (by unfold maxLen; omega) w
  have hs' : ¬ (1048576 : Int) < (s.size : Int) := by omega
  have hn0 : ¬ (n : Int) < 0 := by omega
  have hn1 : ¬ (65536 : Int) < (n : Int) := by omega
  go_enter Try.func4, Try.ntmps4
  go_wp2_with fail
  refine hby.mono ?_
  rintro e w' ⟨⟨ok, rfl⟩, rfl⟩
  cases ok
  · go_wp2
    go_ret
    exact ⟨rfl, Below.refl _ _⟩
  clear hby
  go_wp2_with fail
  refine (zFloat32 g _).mono ?_
  rintro e w1 ⟨rfl, rfl⟩
  go_wp2
  go_ret
  exact ⟨rfl, Below.refl _ _⟩

set_option maxRecDepth 10000 in
set_option maxHeartbeats 1000000 in
theorem row9 (s : ByteArray) (f g : Nat) (b : Bool) (i : Int) (n : Nat) (hs : s.size ≤ 1048576) (hn : n ≤ 65536) (w : World) :
    Calls Try.prog 4 #[.int .u8 9, .string s, .float .f64 f, .bool b, .int .i64 i, .float .f32 g, .int .i64 n] w fun e w' => Well w e w' := by
  have hby := bytes15 9 i n s f g b (by unfold maxLen; omega) w
  have hs' : ¬ (1048576 : Int) < (s.size : Int) := by omega
  have hn0 : ¬ (n : Int) < 0 := by omega
  have hn1 : ¬ (65536 : Int) < (n : Int) := by omega
  go_enter Try.func4, Try.ntmps4
  go_wp2_with fail
  refine hby.mono ?_
  rintro e w' ⟨⟨ok, rfl⟩, rfl⟩
  cases ok
  · go_wp2
    go_ret
    exact ⟨rfl, Below.refl _ _⟩
  clear hby
  go_wp2_with fail
  refine (zStrings n hn _).mono ?_
  rintro e w1 ⟨rfl, hB⟩
  go_wp2
  go_ret
  exact ⟨rfl, hB⟩

set_option maxRecDepth 10000 in
set_option maxHeartbeats 1000000 in
theorem row10 (s : ByteArray) (f g : Nat) (b : Bool) (i : Int) (n : Nat) (hs : s.size ≤ 1048576) (hn : n ≤ 65536) (w : World) :
    Calls Try.prog 4 #[.int .u8 10, .string s, .float .f64 f, .bool b, .int .i64 i, .float .f32 g, .int .i64 n] w fun e w' => Well w e w' := by
  have hby := bytes15 10 i n s f g b (by unfold maxLen; omega) w
  have hs' : ¬ (1048576 : Int) < (s.size : Int) := by omega
  have hn0 : ¬ (n : Int) < 0 := by omega
  have hn1 : ¬ (65536 : Int) < (n : Int) := by omega
  go_enter Try.func4, Try.ntmps4
  go_wp2_with fail
  refine hby.mono ?_
  rintro e w' ⟨⟨ok, rfl⟩, rfl⟩
  cases ok
  · go_wp2
    go_ret
    exact ⟨rfl, Below.refl _ _⟩
  clear hby
  go_wp2_with fail
  refine (zStringMap s s _).mono ?_
  rintro e w1 ⟨rfl, hB⟩
  go_wp2
  go_ret
  exact ⟨rfl, hB⟩

set_option maxRecDepth 10000 in
set_option maxHeartbeats 1000000 in
theorem row11 (s : ByteArray) (f g : Nat) (b : Bool) (i : Int) (n : Nat) (hs : s.size ≤ 1048576) (hn : n ≤ 65536) (w : World) :
    Calls Try.prog 4 #[.int .u8 11, .string s, .float .f64 f, .bool b, .int .i64 i, .float .f32 g, .int .i64 n] w fun e w' => Well w e w' := by
  have hby := bytes15 11 i n s f g b (by unfold maxLen; omega) w
  have hs' : ¬ (1048576 : Int) < (s.size : Int) := by omega
  have hn0 : ¬ (n : Int) < 0 := by omega
  have hn1 : ¬ (65536 : Int) < (n : Int) := by omega
  go_enter Try.func4, Try.ntmps4
  go_wp2_with fail
  refine hby.mono ?_
  rintro e w' ⟨⟨ok, rfl⟩, rfl⟩
  cases ok
  · go_wp2
    go_ret
    exact ⟨rfl, Below.refl _ _⟩
  clear hby
  go_wp2_with fail
  refine (zStringPointer s _).mono ?_
  rintro e w1 ⟨rfl, hB⟩
  go_wp2
  go_ret
  exact ⟨rfl, hB⟩

set_option maxRecDepth 10000 in
set_option maxHeartbeats 1000000 in
theorem row12 (s : ByteArray) (f g : Nat) (b : Bool) (i : Int) (n : Nat) (hs : s.size ≤ 1048576) (hn : n ≤ 65536) (w : World) :
    Calls Try.prog 4 #[.int .u8 12, .string s, .float .f64 f, .bool b, .int .i64 i, .float .f32 g, .int .i64 n] w fun e w' => Well w e w' := by
  have hby := bytes15 12 i n s f g b (by unfold maxLen; omega) w
  have hs' : ¬ (1048576 : Int) < (s.size : Int) := by omega
  have hn0 : ¬ (n : Int) < 0 := by omega
  have hn1 : ¬ (65536 : Int) < (n : Int) := by omega
  go_enter Try.func4, Try.ntmps4
  go_wp2_with fail
  refine hby.mono ?_
  rintro e w' ⟨⟨ok, rfl⟩, rfl⟩
  cases ok
  · go_wp2
    go_ret
    exact ⟨rfl, Below.refl _ _⟩
  clear hby
  go_wp2_with fail
  refine (zInt i _).mono ?_
  rintro e w1 ⟨rfl, rfl⟩
  go_wp2
  go_ret
  exact ⟨rfl, Below.refl _ _⟩

set_option maxRecDepth 10000 in
set_option maxHeartbeats 1000000 in
theorem rowRest (tag : Int) (h0 : tag ≠ 0) (h1 : tag ≠ 1) (h2 : tag ≠ 2) (h3 : tag ≠ 3) (h4 : tag ≠ 4) (h5 : tag ≠ 5) (h6 : tag ≠ 6) (h7 : tag ≠ 7) (h8 : tag ≠ 8) (h9 : tag ≠ 9) (h10 : tag ≠ 10) (h11 : tag ≠ 11) (h12 : tag ≠ 12) (s : ByteArray) (f g : Nat) (b : Bool) (i : Int) (n : Nat) (hs : s.size ≤ 1048576) (hn : n ≤ 65536) (w : World) :
    Calls Try.prog 4 #[.int .u8 tag, .string s, .float .f64 f, .bool b, .int .i64 i, .float .f32 g, .int .i64 n] w fun e w' => Well w e w' := by
  have hby := bytes15 tag i n s f g b (by unfold maxLen; omega) w
  have hs' : ¬ (1048576 : Int) < (s.size : Int) := by omega
  have hn0 : ¬ (n : Int) < 0 := by omega
  have hn1 : ¬ (65536 : Int) < (n : Int) := by omega
  have t0 : (tag == 0) = false := by simp; omega
  have t1 : (tag == 1) = false := by simp; omega
  have t2 : (tag == 2) = false := by simp; omega
  have t3 : (tag == 3) = false := by simp; omega
  have t4 : (tag == 4) = false := by simp; omega
  have t5 : (tag == 5) = false := by simp; omega
  have t6 : (tag == 6) = false := by simp; omega
  have t7 : (tag == 7) = false := by simp; omega
  have t8 : (tag == 8) = false := by simp; omega
  have t9 : (tag == 9) = false := by simp; omega
  have t10 : (tag == 10) = false := by simp; omega
  have t11 : (tag == 11) = false := by simp; omega
  have t12 : (tag == 12) = false := by simp; omega
  clear h0 h1 h2 h3 h4 h5 h6 h7 h8 h9 h10 h11 h12
  go_enter Try.func4, Try.ntmps4
  go_wp2_with fail
  refine hby.mono ?_
  rintro e w' ⟨⟨ok, rfl⟩, rfl⟩
  cases ok
  · go_wp2
    go_ret
    exact ⟨rfl, Below.refl _ _⟩
  clear hby
  go_wp2_with fail
  refine (zInt64 i _).mono ?_
  rintro e w1 ⟨rfl, rfl⟩
  go_wp2
  go_ret
  exact ⟨rfl, Below.refl _ _⟩

set_option maxHeartbeats 400000 in
theorem law5 (a0 : Int) (a1 : ByteArray) (a2 : Nat) (a3 : Bool) (a4 : Int) (a5 : Nat) (a6 : Int) (w1 : a1.size ≤ maxLen) (w : World) :
    Calls Try.prog 4 #[.int .u8 a0, .string a1, .float .f64 a2, .bool a3, .int .i64 a4, .float .f32 a5, .int .i64 a6] w fun e w' => Well w e w' := by
  by_cases hb : 1048576 < a1.size ∨ a6 < 0 ∨ 65536 < a6
  · have hby := bytes15 a0 a4 a6 a1 a2 a5 a3 w1 w
    unfold maxLen at w1
    by_cases hb1 : 1048576 < a1.size
    · have hs : (1048576 : Int) < (a1.size : Int) := by omega
      clear hb
      go_enter Try.func4, Try.ntmps4
      go_wp2_with fail
      refine hby.mono ?_
      rintro e w' ⟨⟨ok, rfl⟩, rfl⟩
      cases ok
      all_goals
        go_wp2
        go_ret
        exact ⟨rfl, Below.refl _ _⟩
    · have hs : ¬ (1048576 : Int) < (a1.size : Int) := by omega
      by_cases hb2 : a6 < 0
      · clear hb
        go_enter Try.func4, Try.ntmps4
        go_wp2_with fail
        refine hby.mono ?_
        rintro e w' ⟨⟨ok, rfl⟩, rfl⟩
        cases ok
        all_goals
          go_wp2
          go_ret
          exact ⟨rfl, Below.refl _ _⟩
      · have hb3 : 65536 < a6 := by omega
        clear hb
        go_enter Try.func4, Try.ntmps4
        go_wp2_with fail
        refine hby.mono ?_
        rintro e w' ⟨⟨ok, rfl⟩, rfl⟩
        cases ok
        all_goals
          go_wp2
          go_ret
          exact ⟨rfl, Below.refl _ _⟩
  · obtain ⟨n, rfl⟩ : ∃ n : Nat, a6 = (n : Int) := ⟨a6.toNat, by omega⟩
    have hs : a1.size ≤ 1048576 := by omega
    have hn : n ≤ 65536 := by omega
    by_cases h0 : a0 = 0
    · subst h0; exact row0 a1 a2 a5 a3 a4 n hs hn w
    by_cases h1 : a0 = 1
    · subst h1; exact row1 a1 a2 a5 a3 a4 n hs hn w
    by_cases h2 : a0 = 2
    · subst h2; exact row2 a1 a2 a5 a3 a4 n hs hn w
    by_cases h3 : a0 = 3
    · subst h3; exact row3 a1 a2 a5 a3 a4 n hs hn w
    by_cases h4 : a0 = 4
    · subst h4; exact row4 a1 a2 a5 a3 a4 n hs hn w
    by_cases h5 : a0 = 5
    · subst h5; exact row5 a1 a2 a5 a3 a4 n hs hn w
    by_cases h6 : a0 = 6
    · subst h6; exact row6 a1 a2 a5 a3 a4 n hs hn w
    by_cases h7 : a0 = 7
    · subst h7; exact row7 a1 a2 a5 a3 a4 n hs hn w
    by_cases h8 : a0 = 8
    · subst h8; exact row8 a1 a2 a5 a3 a4 n hs hn w
    by_cases h9 : a0 = 9
    · subst h9; exact row9 a1 a2 a5 a3 a4 n hs hn w
    by_cases h10 : a0 = 10
    · subst h10; exact row10 a1 a2 a5 a3 a4 n hs hn w
    by_cases h11 : a0 = 11
    · subst h11; exact row11 a1 a2 a5 a3 a4 n hs hn w
    by_cases h12 : a0 = 12
    · subst h12; exact row12 a1 a2 a5 a3 a4 n hs hn w
    exact rowRest a0 h0 h1 h2 h3 h4 h5 h6 h7 h8 h9 h10 h11 h12 a1 a2 a5 a3 a4 n hs hn w
end Go.Proofs.Qxb6609255a
