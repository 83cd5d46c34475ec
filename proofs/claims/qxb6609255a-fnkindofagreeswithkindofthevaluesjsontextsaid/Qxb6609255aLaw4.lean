/-
  'FnKindOfAgreesWithKindOfTheValuesJSONText': the walk, tag by tag.
-/
import Derived.Test.Qxb6609255aText
import Derived.Lib.SlBytesConst
namespace Go.Proofs.Qxb6609255a
open Go.RowKit

/-- The law's end: true, and nothing that was there has turned. -/
def Fine (w : World) (e : Ending) (w' : World) : Prop := e = .returned (.bool true) ∧ Below w.heap.size w w'

set_option maxRecDepth 10000 in
set_option maxHeartbeats 1000000 in
theorem tag0 (s : ByteArray) (i : Int) (b : Bool) (n : Nat) (hs : s.size ≤ 131072) (hn : n ≤ 65536) (w : World) :
    Calls Try.prog 3 #[.int .u8 0, .string s, .int .i64 i, .bool b, .int .i64 n] w fun e w' => Fine w e w' := by
  have hby := bytes5 0 i n s b (by unfold maxLen; omega) w
  have hs' : ¬ (131072 : Int) < (s.size : Int) := by omega
  have hn0 : ¬ (n : Int) < 0 := by omega
  have hn1 : ¬ (65536 : Int) < (n : Int) := by omega
  go_enter Try.func3, Try.ntmps3
  go_wp2_with fail
  refine hby.mono ?_
  rintro e w' ⟨⟨ok, rfl⟩, rfl⟩
  cases ok
  · go_wp2
    go_ret
    exact ⟨rfl, Below.refl _ _⟩
  clear hby
  go_wp2_with fail
  refine (json_any (World.ownsRow_nil w' w'.heap.size 5 1) (Nat.le_refl _) (by omega) s hs).mono ?_
  rintro e w1 ⟨g, cap, n', h, ys, rfl, ho, rfl, hle, hbw, hB⟩
  obtain ⟨hpos, hc⟩ := first_byte ho
  clear ho
  go_wp2_with fail
  refine (zString s w1).mono ?_
  rintro e w2 ⟨rfl, rfl⟩
  go_wp2_with fail
  refine (kind_string g n' cap w2 hpos hc).mono ?_
  rintro e w3 ⟨rfl, rfl⟩
  go_wp2
  go_ret
  exact ⟨rfl, hB⟩

set_option maxRecDepth 10000 in
set_option maxHeartbeats 1000000 in
theorem tag1 (s : ByteArray) (i : Int) (b : Bool) (n : Nat) (hs : s.size ≤ 131072) (hi64 : i ≤ 9223372036854775807) (hn : n ≤ 65536) (w : World) :
    Calls Try.prog 3 #[.int .u8 1, .string s, .int .i64 i, .bool b, .int .i64 n] w fun e w' => Fine w e w' := by
  have hby := bytes5 1 i n s b (by unfold maxLen; omega) w
  have hs' : ¬ (131072 : Int) < (s.size : Int) := by omega
  have hn0 : ¬ (n : Int) < 0 := by omega
  have hn1 : ¬ (65536 : Int) < (n : Int) := by omega
  go_enter Try.func3, Try.ntmps3
  go_wp2_with fail
  refine hby.mono ?_
  rintro e w' ⟨⟨ok, rfl⟩, rfl⟩
  cases ok
  · go_wp2
    go_ret
    exact ⟨rfl, Below.refl _ _⟩
  clear hby
  go_wp2_with fail
  refine (int_any (World.ownsRow_nil w' w'.heap.size 5 1) (Nat.le_refl _) (by omega) i hi64).mono ?_
  rintro e w1 ⟨g, cap, n', h, ys, rfl, ho, ⟨c, rfl, hcc⟩, hle, hbw, hB⟩
  obtain ⟨hpos, hc⟩ := first_byte ho
  have HC : Hid (c = 45 ∨ (48 ≤ c ∧ c ≤ 57)) := hcc
  clear ho hcc
  go_wp2_with fail
  refine (zFloat64 _ w1).mono ?_
  rintro e w2 ⟨rfl, rfl⟩
  go_wp2_with fail
  refine (kind_number g n' cap c HC.out w2 hpos hc).mono ?_
  rintro e w3 ⟨rfl, rfl⟩
  go_wp2
  go_ret
  exact ⟨rfl, hB⟩

set_option maxRecDepth 10000 in
set_option maxHeartbeats 1000000 in
theorem tag2t (s : ByteArray) (i : Int) (n : Nat) (hs : s.size ≤ 131072) (hn : n ≤ 65536) (w : World) :
    Calls Try.prog 3 #[.int .u8 2, .string s, .int .i64 i, .bool true, .int .i64 n] w fun e w' => Fine w e w' := by
  have hby := bytes5 2 i n s true (by unfold maxLen; omega) w
  have hs' : ¬ (131072 : Int) < (s.size : Int) := by omega
  have hn0 : ¬ (n : Int) < 0 := by omega
  have hn1 : ¬ (65536 : Int) < (n : Int) := by omega
  have kc := fun (w : World) (C : Array Value) (n c : Nat) => Lib.run_convert_bytes_const (P := Try.prog) w 23 5 C n c Try.underlying23 Try.underlying5
  go_enter Try.func3, Try.ntmps3
  go_wp2_with fail
  refine hby.mono ?_
  rintro e w' ⟨⟨ok, rfl⟩, rfl⟩
  cases ok
  · go_wp2
    go_ret
    exact ⟨rfl, Below.refl _ _⟩
  clear hby
  go_wp2_with fail
  refine (zBool true _).mono ?_
  rintro e w2 ⟨rfl, rfl⟩
  go_wp2_with fail
  refine (kind_true _ _ _ _ (by omega) ?_).mono ?_
  · have := heap_alloc_new w' (.cells #[.int .u8 116, .int .u8 114, .int .u8 117, .int .u8 101] 5 (4, 5))
    simp only [World.cell?]
    rw [show (w'.alloc (.cells #[.int .u8 116, .int .u8 114, .int .u8 117, .int .u8 101] 5 (4, 5))).heap[w'.heap.size]? = _ from this]
    rfl
  rintro e w3 ⟨rfl, rfl⟩
  go_wp2
  go_ret
  exact ⟨rfl, (Below.refl _ _).alloc (Nat.le_refl _) _⟩

set_option maxRecDepth 10000 in
set_option maxHeartbeats 1000000 in
theorem tag2f (s : ByteArray) (i : Int) (n : Nat) (hs : s.size ≤ 131072) (hn : n ≤ 65536) (w : World) :
    Calls Try.prog 3 #[.int .u8 2, .string s, .int .i64 i, .bool false, .int .i64 n] w fun e w' => Fine w e w' := by
  have hby := bytes5 2 i n s false (by unfold maxLen; omega) w
  have hs' : ¬ (131072 : Int) < (s.size : Int) := by omega
  have hn0 : ¬ (n : Int) < 0 := by omega
  have hn1 : ¬ (65536 : Int) < (n : Int) := by omega
  have kc := fun (w : World) (C : Array Value) (n c : Nat) => Lib.run_convert_bytes_const (P := Try.prog) w 23 5 C n c Try.underlying23 Try.underlying5
  go_enter Try.func3, Try.ntmps3
  go_wp2_with fail
  refine hby.mono ?_
  rintro e w' ⟨⟨ok, rfl⟩, rfl⟩
  cases ok
  · go_wp2
    go_ret
    exact ⟨rfl, Below.refl _ _⟩
  clear hby
  go_wp2_with fail
  refine (zBool false _).mono ?_
  rintro e w2 ⟨rfl, rfl⟩
  go_wp2_with fail
  refine (kind_false _ _ _ _ (by omega) ?_).mono ?_
  · have := heap_alloc_new w' (.cells #[.int .u8 102, .int .u8 97, .int .u8 108, .int .u8 115, .int .u8 101] 5 (5, 6))
    simp only [World.cell?]
    rw [show (w'.alloc (.cells #[.int .u8 102, .int .u8 97, .int .u8 108, .int .u8 115, .int .u8 101] 5 (5, 6))).heap[w'.heap.size]? = _ from this]
    rfl
  rintro e w3 ⟨rfl, rfl⟩
  go_wp2
  go_ret
  exact ⟨rfl, (Below.refl _ _).alloc (Nat.le_refl _) _⟩

set_option maxRecDepth 10000 in
set_option maxHeartbeats 1000000 in
theorem tag3 (s : ByteArray) (i : Int) (b : Bool) (n : Nat) (hs : s.size ≤ 131072) (hn : n ≤ 65536) (w : World) :
    Calls Try.prog 3 #[.int .u8 3, .string s, .int .i64 i, .bool b, .int .i64 n] w fun e w' => Fine w e w' := by
  have hby := bytes5 3 i n s b (by unfold maxLen; omega) w
  have hs' : ¬ (131072 : Int) < (s.size : Int) := by omega
  have hn0 : ¬ (n : Int) < 0 := by omega
  have hn1 : ¬ (65536 : Int) < (n : Int) := by omega
  have kc := fun (w : World) (C : Array Value) (n c : Nat) => Lib.run_convert_bytes_const (P := Try.prog) w 23 5 C n c Try.underlying23 Try.underlying5
  go_enter Try.func3, Try.ntmps3
  go_wp2_with fail
  refine hby.mono ?_
  rintro e w' ⟨⟨ok, rfl⟩, rfl⟩
  cases ok
  · go_wp2
    go_ret
    exact ⟨rfl, Below.refl _ _⟩
  clear hby
  go_wp2_with fail
  refine (zNil _).mono ?_
  rintro e w2 ⟨rfl, rfl⟩
  go_wp2_with fail
  refine (kind_null _ _ _ _ (by omega) ?_).mono ?_
  · have := heap_alloc_new w' (.cells #[.int .u8 110, .int .u8 117, .int .u8 108, .int .u8 108] 5 (4, 5))
    simp only [World.cell?]
    rw [show (w'.alloc (.cells #[.int .u8 110, .int .u8 117, .int .u8 108, .int .u8 108] 5 (4, 5))).heap[w'.heap.size]? = _ from this]
    rfl
  rintro e w3 ⟨rfl, rfl⟩
  go_wp2
  go_ret
  exact ⟨rfl, (Below.refl _ _).alloc (Nat.le_refl _) _⟩

set_option maxRecDepth 10000 in
set_option maxHeartbeats 1000000 in
theorem tag4 (s : ByteArray) (i : Int) (b : Bool) (n : Nat) (hs : s.size ≤ 131072) (hn : n ≤ 65536) (w : World) :
    Calls Try.prog 3 #[.int .u8 4, .string s, .int .i64 i, .bool b, .int .i64 n] w fun e w' => Fine w e w' := by
  have hby := bytes5 4 i n s b (by unfold maxLen; omega) w
  have hs' : ¬ (131072 : Int) < (s.size : Int) := by omega
  have hn0 : ¬ (n : Int) < 0 := by omega
  have hn1 : ¬ (65536 : Int) < (n : Int) := by omega
  obtain ⟨i0, hi, hz0, hz1, hz2⟩ := info_parts info5
  go_enter Try.func3, Try.ntmps3
  go_wp2_with fail
  refine hby.mono ?_
  rintro e w' ⟨⟨ok, rfl⟩, rfl⟩
  cases ok
  · go_wp2
    go_ret
    exact ⟨rfl, Below.refl _ _⟩
  clear hby
  go_wp2_with fail
  go_loopw [11, 14] (fun d j wr => ∃ (k g n' cap : Nat) (ys : List Value), k ≤ n ∧ j = .int .i64 (k : Nat) ∧ d = .slice (some ⟨g, 0, none⟩) n' cap ∧ wr.ownsRow w'.heap.size 5 1 (.slice (some ⟨g, 0, none⟩) n' cap) n' (.int .u8 91 :: ys) ∧ n' ≤ 1 + 5 * k ∧ w'.heap.size ≤ wr.heap.size ∧ Below w'.heap.size w' wr) (fun _ j _ => n - (intOf j).toNat)
  case atStart => exact ⟨0, _, 1, 1, [], Nat.zero_le _, rfl, rfl, own_one w' _, by omega, by simp, (Below.refl _ _).alloc (Nat.le_refl _) _⟩
  case round =>
    obtain ⟨k, g, n', cap, ys, hk, rfl, rfl, hO, hn', hbr, hBr⟩ := hrel
    have HO : Hid (wr.ownsRow w'.heap.size 5 1 (.slice (some ⟨g, 0, none⟩) n' cap) n' (.int .u8 91 :: ys)) := hO
    clear hO
    by_cases hlt : k < n
    · have hlt' : (k : Int) < (n : Int) := by omega
      by_cases hk0 : 0 < k
      · have hk0' : (0 : Int) < (k : Int) := by omega
        go_wp2_with (first | (at_builtin; refine wpList_append_lies _ rfl _ _ 23 rfl w'.heap.size 5 i0 (.int .u8 0) 1 1 Try.underlying23 hi hz0 hz1 hz2 rfl (by decide) (.slice (some ⟨g, 0, none⟩) n' cap) (n') (.int .u8 91 :: ys) rfl (HO.out.alloc _) ⟨wr.heap.size, 0, none⟩ 1 1 [.int .u8 44] rfl rfl (World.news_of_block (heap_alloc_new wr _)) (by simp [Value.oneCell']) (by omega) (by unfold maxLen; omega) (by omega) (by simp; omega) (wr.heap.size + 1) (by simp) ?_; intro g1 cap1 w1 hO1 hgrow1 hat1 hglt1; have hb1 : w'.heap.size ≤ w1.heap.size := Nat.le_trans hbr (Nat.le_trans (by simp) hgrow1.size)) | (at_builtin; refine wpList_append_lies _ rfl _ _ 23 rfl w'.heap.size 5 i0 (.int .u8 0) 1 1 Try.underlying23 hi hz0 hz1 hz2 rfl (by decide) (.slice (some ⟨g1, 0, none⟩) (n' + 1) cap1) (n' + 1) (.int .u8 91 :: ys ++ [.int .u8 44]) rfl (hO1.alloc _) ⟨w1.heap.size, 0, none⟩ 4 4 [.int .u8 110, .int .u8 117, .int .u8 108, .int .u8 108] rfl rfl (World.news_of_block (heap_alloc_new w1 _)) (by simp [Value.oneCell']) (by omega) (by unfold maxLen; omega) (by omega) (by simp; omega) (w1.heap.size + 1) (by simp) ?_; intro g2 cap2 w2 hO2 hgrow2 hat2 hglt2))
        have hB1 := below_app (hBr.alloc hbr _) (by simp; omega) (HO.out.alloc _) hgrow1
        have hB2 := below_app (hB1.alloc hb1 _) (by simp; omega) (hO1.alloc _) hgrow2
        have hb2 := Nat.le_trans hb1 (Nat.le_trans (by simp) hgrow2.size)
        clear hgrow1 hat1 hglt1 hgrow2 hat2 hglt2
        go_wp2
        go_roundw
        case rel => exact ⟨k + 1, g2, n' + 1 + 4, cap2, _, by omega, by go_num, rfl, by simpa only [List.cons_append] using hO2, by omega, hb2, hB2⟩
        case measure => simp [intOf]; omega
      · have hk0' : ¬ (0 : Int) < (k : Int) := by omega
        go_wp2_with (at_builtin; refine wpList_append_lies _ rfl _ _ 23 rfl w'.heap.size 5 i0 (.int .u8 0) 1 1 Try.underlying23 hi hz0 hz1 hz2 rfl (by decide) (.slice (some ⟨g, 0, none⟩) n' cap) (n') (.int .u8 91 :: ys) rfl (HO.out.alloc _) ⟨wr.heap.size, 0, none⟩ 4 4 [.int .u8 110, .int .u8 117, .int .u8 108, .int .u8 108] rfl rfl (World.news_of_block (heap_alloc_new wr _)) (by simp [Value.oneCell']) (by omega) (by unfold maxLen; omega) (by omega) (by simp; omega) (wr.heap.size + 1) (by simp) ?_; intro g2 cap2 w2 hO2 hgrow2 hat2 hglt2)
        have hB2 := below_app (hBr.alloc hbr _) (by simp; omega) (HO.out.alloc _) hgrow2
        have hb2 := Nat.le_trans hbr (Nat.le_trans (by simp) hgrow2.size)
        clear hgrow2 hat2 hglt2
        go_wp2
        go_roundw
        case rel => exact ⟨k + 1, g2, n' + 4, cap2, _, by omega, by go_num, rfl, hO2, by omega, hb2, hB2⟩
        case measure => simp [intOf]; omega
    · have hge : ¬ (k : Int) < (n : Int) := by omega
      have hnn : n' ≤ 1 + 5 * n := by omega
      go_wp2_with (at_builtin; refine wpList_append_lies _ rfl _ _ 23 rfl w'.heap.size 5 i0 (.int .u8 0) 1 1 Try.underlying23 hi hz0 hz1 hz2 rfl (by decide) (.slice (some ⟨g, 0, none⟩) n' cap) (n') (.int .u8 91 :: ys) rfl (HO.out.alloc _) ⟨wr.heap.size, 0, none⟩ 1 1 [.int .u8 93] rfl rfl (World.news_of_block (heap_alloc_new wr _)) (by simp [Value.oneCell']) (by omega) (by unfold maxLen; omega) (by omega) (by simp; omega) (wr.heap.size + 1) (by simp) ?_; intro g2 cap2 w2 hO2 hgrow2 hat2 hglt2)
      have hB2 := below_app (hBr.alloc hbr _) (by simp; omega) (HO.out.alloc _) hgrow2
      have hb2 := Nat.le_trans hbr (Nat.le_trans (by simp) hgrow2.size)
      clear hgrow2 hat2 hglt2
      obtain ⟨hpos, hc⟩ := first_byte hO2
      have hg2 := row_lt hO2
      clear hO2
      refine (zList n hn w2).mono ?_
      rintro e w3 ⟨rfl, hB3⟩
      have hc3 := cell_below hc hg2 hB3
      have hBe : Below w'.heap.size w' w3 := hB2.trans (hB3.mono hb2)
      clear hc hB2 hB3
      go_wp2_with fail
      refine (kind_array g2 (n' + 1) cap2 w3 hpos hc3).mono ?_
      rintro e w4 ⟨rfl, rfl⟩
      go_wp2
      go_ret
      exact ⟨rfl, hBe⟩

set_option maxRecDepth 10000 in
set_option maxHeartbeats 1000000 in
theorem tagRest (tag : Int) (h0 : tag ≠ 0) (h1 : tag ≠ 1) (h2 : tag ≠ 2) (h3 : tag ≠ 3) (h4 : tag ≠ 4) (s : ByteArray) (i : Int) (b : Bool) (n : Nat) (hs : s.size ≤ 131072) (hi64 : i ≤ 9223372036854775807) (hn : n ≤ 65536) (w : World) :
    Calls Try.prog 3 #[.int .u8 tag, .string s, .int .i64 i, .bool b, .int .i64 n] w fun e w' => Fine w e w' := by
  have hby := bytes5 tag i n s b (by unfold maxLen; omega) w
  have hs' : ¬ (131072 : Int) < (s.size : Int) := by omega
  have hn0 : ¬ (n : Int) < 0 := by omega
  have hn1 : ¬ (65536 : Int) < (n : Int) := by omega
  obtain ⟨i0, hi, hz0, hz1, hz2⟩ := info_parts info5
  have t0 : (tag == 0) = false := by simp; omega
  have t1 : (tag == 1) = false := by simp; omega
  have t2 : (tag == 2) = false := by simp; omega
  have t3 : (tag == 3) = false := by simp; omega
  have t4 : (tag == 4) = false := by simp; omega
  clear h0 h1 h2 h3 h4
  go_enter Try.func3, Try.ntmps3
  go_wp2_with fail
  refine hby.mono ?_
  rintro e w' ⟨⟨ok, rfl⟩, rfl⟩
  cases ok
  · go_wp2
    go_ret
    exact ⟨rfl, Below.refl _ _⟩
  clear hby
  go_wp2_with fail
  refine (json_any (own_one w' (.int .u8 123)) (by simp) (by omega) s hs).mono ?_
  rintro e w1 ⟨g1, cap1, n1, q1, ys1, rfl, hO1, _, hle1, hb1, hB1⟩
  go_wp2_with (at_builtin; refine wpList_append_lies _ rfl _ _ 23 rfl w'.heap.size 5 i0 (.int .u8 0) 1 1 Try.underlying23 hi hz0 hz1 hz2 rfl (by decide) (.slice (some ⟨g1, 0, none⟩) n1 cap1) (n1) ([.int .u8 123] ++ q1 :: ys1) rfl (hO1.alloc _) ⟨w1.heap.size, 0, none⟩ 1 1 [.int .u8 58] rfl rfl (World.news_of_block (heap_alloc_new w1 _)) (by simp [Value.oneCell']) (by omega) (by unfold maxLen; omega) (by omega) (by simp; omega) (w1.heap.size + 1) (by simp) ?_; intro g2 cap2 w2 hO2 hgrow2 hat2 hglt2)
  have hBa : Below w'.heap.size w' w1 := ((Below.refl _ _).alloc (Nat.le_refl _) _).trans hB1
  have hB2 := below_app (hBa.alloc hb1 _) (by simp; omega) (hO1.alloc _) hgrow2
  have hb2 := Nat.le_trans hb1 (Nat.le_trans (by simp) hgrow2.size)
  clear hgrow2 hat2 hglt2 hBa hB1
  refine (int_any hO2 hb2 (by omega) i hi64).mono ?_
  rintro e w3 ⟨g3, cap3, n3, q3, ys3, rfl, hO3, _, hle3, hb3, hB3⟩
  have hBb : Below w'.heap.size w' w3 := hB2.trans hB3
  clear hB2 hB3 hO2 hO1
  go_wp2_with (at_builtin; refine wpList_append_lies _ rfl _ _ 23 rfl w'.heap.size 5 i0 (.int .u8 0) 1 1 Try.underlying23 hi hz0 hz1 hz2 rfl (by decide) (.slice (some ⟨g3, 0, none⟩) n3 cap3) (n3) ([.int .u8 123] ++ q1 :: ys1 ++ [.int .u8 58] ++ q3 :: ys3) rfl (hO3.alloc _) ⟨w3.heap.size, 0, none⟩ 1 1 [.int .u8 125] rfl rfl (World.news_of_block (heap_alloc_new w3 _)) (by simp [Value.oneCell']) (by omega) (by unfold maxLen; omega) (by omega) (by simp; omega) (w3.heap.size + 1) (by simp) ?_; intro g4 cap4 w4 hO4 hgrow4 hat4 hglt4)
  have hB4 := below_app (hBb.alloc hb3 _) (by simp; omega) (hO3.alloc _) hgrow4
  have hb4 := Nat.le_trans hb3 (Nat.le_trans (by simp) hgrow4.size)
  clear hgrow4 hat4 hglt4 hBb
  obtain ⟨hpos, hc⟩ := first_byte (h := .int .u8 123) hO4
  have hg4 := row_lt hO4
  clear hO4 hO3
  refine (zObject s _ w4).mono ?_
  rintro e w5 ⟨rfl, hB5⟩
  have hc5 := cell_below hc hg4 hB5
  have hBe : Below w'.heap.size w' w5 := hB4.trans (hB5.mono hb4)
  clear hc hB4 hB5
  go_wp2_with fail
  refine (kind_object g4 (n3 + 1) cap4 w5 hpos hc5).mono ?_
  rintro e w6 ⟨rfl, rfl⟩
  go_wp2
  go_ret
  exact ⟨rfl, hBe⟩

set_option maxHeartbeats 400000 in
theorem law4 (a0 : Int) (a1 : ByteArray) (a2 : Int) (a3 : Bool) (a4 : Int) (w1 : a1.size ≤ maxLen) (h2 : a2 ≤ 9223372036854775807) (w : World) :
    Calls Try.prog 3 #[.int .u8 a0, .string a1, .int .i64 a2, .bool a3, .int .i64 a4] w fun e w' => Fine w e w' := by
  by_cases hb : 131072 < a1.size ∨ a4 < 0 ∨ 65536 < a4
  · have hby := bytes5 a0 a2 a4 a1 a3 w1 w
    unfold maxLen at w1
    by_cases hb1 : 131072 < a1.size
    · have hs : (131072 : Int) < (a1.size : Int) := by omega
      clear hb
      go_enter Try.func3, Try.ntmps3
      go_wp2_with fail
      refine hby.mono ?_
      rintro e w' ⟨⟨ok, rfl⟩, rfl⟩
      cases ok
      all_goals
        go_wp2
        go_ret
        exact ⟨rfl, Below.refl _ _⟩
    · have hs : ¬ (131072 : Int) < (a1.size : Int) := by omega
      by_cases hb2 : a4 < 0
      · clear hb
        go_enter Try.func3, Try.ntmps3
        go_wp2_with fail
        refine hby.mono ?_
        rintro e w' ⟨⟨ok, rfl⟩, rfl⟩
        cases ok
        all_goals
          go_wp2
          go_ret
          exact ⟨rfl, Below.refl _ _⟩
      · have hb3 : 65536 < a4 := by omega
        clear hb
        go_enter Try.func3, Try.ntmps3
        go_wp2_with fail
        refine hby.mono ?_
        rintro e w' ⟨⟨ok, rfl⟩, rfl⟩
        cases ok
        all_goals
          go_wp2
          go_ret
          exact ⟨rfl, Below.refl _ _⟩
  · obtain ⟨n, rfl⟩ : ∃ n : Nat, a4 = (n : Int) := ⟨a4.toNat, by omega⟩
    have hs : a1.size ≤ 131072 := by omega
    have hn : n ≤ 65536 := by omega
    by_cases h0 : a0 = 0
    · subst h0; exact tag0 a1 a2 a3 n hs hn w
    by_cases h1 : a0 = 1
    · subst h1; exact tag1 a1 a2 a3 n hs h2 hn w
    by_cases h2' : a0 = 2
    · subst h2'
      cases a3
      · exact tag2f a1 a2 n hs hn w
      · exact tag2t a1 a2 n hs hn w
    by_cases h3 : a0 = 3
    · subst h3; exact tag3 a1 a2 a3 n hs hn w
    by_cases h4 : a0 = 4
    · subst h4; exact tag4 a1 a2 a3 n hs hn w
    exact tagRest a0 h0 h1 h2' h3 h4 a1 a2 a3 n hs h2 hn w
end Go.Proofs.Qxb6609255a
