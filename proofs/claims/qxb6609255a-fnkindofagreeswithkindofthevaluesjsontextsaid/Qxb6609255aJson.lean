/-
  'zzAppendJSONString': what it appends opens with a quote.
-/
import Derived.Test.Qxb6609255aRows
import Derived.WalkKit
import Derived.WalkSpells
import Derived.WalkLawsBesides
import Derived.Deep.AppendLies
import Derived.Deep.RegionHeldLaw
namespace Go.Proofs.Qxb6609255a
open Go.RowKit

theorem info5 : (Try.prog.info? 5).map (fun i => (i.zero, i.size, i.bytes)) = some (some (.int .u8 0), 1, 1) := by kernel_rfl

/-- Below 'base' nothing turns by an append onto a row of the call's own. -/
theorem below_app {base : Nat} {w W w1 : World} {v : Value} {n : Nat} {xs : List Value} (hB : Below base w W) (hb : base ≤ W.heap.size) (hown : W.ownsRow base 5 1 v n xs) (hg : W.grownBy w1 v.ownBlock) : Below base w w1 := by
  refine hB.grown hg hb (fun k hk => ?_)
  rcases hown.2 with ⟨rfl, _⟩ | ⟨g, cap, cur, rfl, h, _⟩
  · simp [Value.ownBlock] at hk
  · simp only [Value.ownBlock, Option.some.injEq] at hk
    omega

theorem and15 : ∀ c : Fin 32, bits .and .u8 ((c.val : Nat) : Int) 15 = ((c.val % 16 : Nat) : Int) := by decide
theorem and15' {c : Nat} (h : c < 32) : ∃ y : Nat, bits .and .u8 (c : Int) 15 = (y : Int) ∧ y < 16 := ⟨c % 16, and15 ⟨c, h⟩, by omega⟩
theorem div16' {c : Nat} (h : c < 32) : ∃ x : Nat, (c : Int) / 16 = (x : Int) ∧ x < 16 := ⟨c / 16, by omega, by omega⟩

/-- What is handed back owns a row that opens with 'pre' and goes on with a byte of which 'hd' holds. -/
def Got (base N : Nat) (w : World) (pre : List Value) (hd : Value → Prop) (e : Ending) (w' : World) : Prop :=
  ∃ g cap n' h ys, e = .returned (.slice (some ⟨g, 0, none⟩) n' cap) ∧ w'.ownsRow base 5 1 (.slice (some ⟨g, 0, none⟩) n' cap) n' (pre ++ h :: ys) ∧ hd h ∧ n' ≤ N ∧ base ≤ w'.heap.size ∧ Below base w w'

set_option maxRecDepth 10000 in
set_option maxHeartbeats 1000000 in
theorem json_any {base n : Nat} {v : Value} {xs : List Value} {w : World} (hown : w.ownsRow base 5 1 v n xs) (hb : base ≤ w.heap.size) (hn : n ≤ 1) (s : ByteArray) (hs : s.size ≤ 131072) :
    Calls Try.prog 6 #[v, .string s] w fun e w' => Got base 1000000 w xs (fun h => h = .int .u8 34) e w' := by
  obtain ⟨i0, hi, hz0, hz1, hz2⟩ := info_parts info5
  have hown1 : Hid (w.ownsRow base 5 1 v n xs) := hown
  clear hown
  go_enter Try.func6, Try.ntmps6
  go_wp2_with (at_builtin; refine wpList_append_lies _ rfl _ _ 23 rfl base 5 i0 (.int .u8 0) 1 1 Try.underlying23 hi hz0 hz1 hz2 rfl (by decide) v n xs rfl (hown1.out.alloc _) ⟨w.heap.size, 0, none⟩ 1 1 [.int .u8 34] rfl rfl (cell_one_new _ _ _) (by simp [Value.oneCell']) (by omega) (by unfold maxLen; omega) (by omega) (by simp; omega) (w.heap.size + 1) (by simp) ?_; intro g cap w1 hown2 hgrow hat hglt)
  have hB1 : Below base w w1 := below_app ((Below.refl _ _).alloc hb _) (by simp; omega) (hown1.out.alloc _) hgrow
  have hbw : base ≤ w1.heap.size := Nat.le_trans hb hB1.size
  clear hgrow hat hglt
  go_loopw [0, 5] (fun d i wr => ∃ (k g n' cap : Nat) (ys : List Value), k ≤ s.size ∧ i = .int .i64 (k : Nat) ∧ d = .slice (some ⟨g, 0, none⟩) n' cap ∧ wr.ownsRow base 5 1 (.slice (some ⟨g, 0, none⟩) n' cap) n' (xs ++ .int .u8 34 :: ys) ∧ n' ≤ 2 + 6 * k ∧ base ≤ wr.heap.size ∧ Below base w wr) (fun _ i _ => s.size - (intOf i).toNat)
  case atStart => exact ⟨0, g, n + 1, cap, [], Nat.zero_le _, rfl, rfl, hown2, by omega, hbw, hB1⟩
  case round =>
    obtain ⟨k, g', n', cap', ys, hk, rfl, rfl, hO, hn', hbr, hBr⟩ := hrel
    clear hown2 hB1 hbw
    have HO : Hid (wr.ownsRow base 5 1 (.slice (some ⟨g', 0, none⟩) n' cap') n' (xs ++ .int .u8 34 :: ys)) := hO
    clear hO
    by_cases hlt : k < s.size
    · have hlt' : (k : Int) < (s.size : Int) := by omega
      have hc256 : s[k].toNat < 256 := UInt8.toNat_lt _
      generalize hcc : s[k].toNat = c at hc256
      have HC : Hid (s[k].toNat = c) := hcc
      by_cases h2 : c = 34 ∨ c = 92
      · by_cases h34 : c = 34
        · have e1 : ((c : Int) == 34) = true := by simp; omega
          clear h2 h34
          go_wp2_with (at_builtin; refine wpList_append_lies _ rfl _ _ 23 rfl base 5 i0 (.int .u8 0) 1 1 Try.underlying23 hi hz0 hz1 hz2 rfl (by decide) (.slice (some ⟨g', 0, none⟩) n' cap') n' (xs ++ .int .u8 34 :: ys) rfl (HO.out.alloc _) ⟨wr.heap.size, 0, none⟩ 2 2 [.int .u8 92, .int .u8 c] rfl rfl (World.news_of_block (heap_alloc_new wr _)) (by simp [Value.oneCell']) (by omega) (by unfold maxLen; omega) (by omega) (by simp; omega) (wr.heap.size + 1) (by simp) ?_; intro g2 cap2 w2 hO2 hgrow hat hglt)
          have hB2 := below_app (hBr.alloc hbr _) (by simp; omega) (HO.out.alloc _) hgrow
          have hb2 := Nat.le_trans hbr (Nat.le_trans (by simp) hgrow.size)
          clear hgrow hat hglt
          go_wp2
          go_roundw
          case rel => exact ⟨k + 1, g2, n' + 2, cap2, ys ++ [.int .u8 92, .int .u8 c], by omega, by go_num, rfl, by simpa using hO2, by omega, hb2, hB2⟩
          case measure => simp [intOf]; omega
        · have e1 : ((c : Int) == 34) = false := by simp; omega
          have e2 : ((c : Int) == 92) = true := by simp; omega
          clear h2 h34
          go_wp2_with (at_builtin; refine wpList_append_lies _ rfl _ _ 23 rfl base 5 i0 (.int .u8 0) 1 1 Try.underlying23 hi hz0 hz1 hz2 rfl (by decide) (.slice (some ⟨g', 0, none⟩) n' cap') n' (xs ++ .int .u8 34 :: ys) rfl (HO.out.alloc _) ⟨wr.heap.size, 0, none⟩ 2 2 [.int .u8 92, .int .u8 c] rfl rfl (World.news_of_block (heap_alloc_new wr _)) (by simp [Value.oneCell']) (by omega) (by unfold maxLen; omega) (by omega) (by simp; omega) (wr.heap.size + 1) (by simp) ?_; intro g2 cap2 w2 hO2 hgrow hat hglt)
          have hB2 := below_app (hBr.alloc hbr _) (by simp; omega) (HO.out.alloc _) hgrow
          have hb2 := Nat.le_trans hbr (Nat.le_trans (by simp) hgrow.size)
          clear hgrow hat hglt
          go_wp2
          go_roundw
          case rel => exact ⟨k + 1, g2, n' + 2, cap2, ys ++ [.int .u8 92, .int .u8 c], by omega, by go_num, rfl, by simpa using hO2, by omega, hb2, hB2⟩
          case measure => simp [intOf]; omega
      · by_cases h32 : c < 32
        · have e1 : ((c : Int) == 34) = false := by simp; omega
          have e2 : ((c : Int) == 92) = false := by simp; omega
          have e3 : (c : Int) < 32 := by omega
          obtain ⟨y, hy, hy16⟩ := and15' h32
          obtain ⟨x, hx, hx16⟩ := div16' h32
          have hy1 : (y : Int) < 16 := by omega
          have hx1 : (x : Int) < 16 := by omega
          go_wp2_with fail
          go_region_held_law (fun _ => True) (trivial) ((refine step_append_lies _ rfl _ _ 23 rfl base 5 i0 (.int .u8 0) 1 1 Try.underlying23 hi hz0 hz1 hz2 rfl (by decide) (.slice (some ⟨g', 0, none⟩) n' cap') n' (xs ++ .int .u8 34 :: ys) rfl (HO.out.alloc _) ⟨wr.heap.size, 0, none⟩ 6 6 _ rfl rfl (World.news_of_block (heap_alloc_new wr _)) (by simp [Value.oneCell']) (by omega) (by unfold maxLen; omega) (by omega) (by simp; omega) (wr.heap.size + 1) (by simp) ?_; intro g2 cap2 w2 hO2 hgrow hat hglt))
          all_goals
            have hB2 := below_app ((hBr.alloc hbr _).drew) (by simp; omega) (HO.out.alloc _).drew hgrow
            have hb2 := Nat.le_trans hbr (Nat.le_trans (by simp) hgrow.size)
            clear hgrow hat hglt
            go_wp2
            go_roundw
            case rel => exact ⟨k + 1, g2, n' + 6, cap2, _, by omega, by go_num, rfl, by rw [List.append_assoc, List.cons_append] at hO2; exact hO2, by omega, hb2, hB2⟩
            case measure => simp [intOf]; omega
        · have e1 : ((c : Int) == 34) = false := by simp; omega
          have e2 : ((c : Int) == 92) = false := by simp; omega
          have e3 : ¬ (c : Int) < 32 := by omega
          go_wp2_with (at_builtin; refine wpList_append_lies _ rfl _ _ 23 rfl base 5 i0 (.int .u8 0) 1 1 Try.underlying23 hi hz0 hz1 hz2 rfl (by decide) (.slice (some ⟨g', 0, none⟩) n' cap') n' (xs ++ .int .u8 34 :: ys) rfl (HO.out.alloc _) ⟨wr.heap.size, 0, none⟩ 1 1 [.int .u8 c] rfl rfl (cell_one_new _ _ _) (by simp [Value.oneCell']) (by omega) (by unfold maxLen; omega) (by omega) (by simp; omega) (wr.heap.size + 1) (by simp) ?_; intro g2 cap2 w2 hO2 hgrow hat hglt)
          have hB2 := below_app (hBr.alloc hbr _) (by simp; omega) (HO.out.alloc _) hgrow
          have hb2 := Nat.le_trans hbr (Nat.le_trans (by simp) hgrow.size)
          clear hgrow hat hglt
          go_wp2
          go_roundw
          case rel => exact ⟨k + 1, g2, n' + 1, cap2, ys ++ [.int .u8 c], by omega, by go_num, rfl, by simpa using hO2, by omega, hb2, hB2⟩
          case measure => simp [intOf]; omega
    · have hge : ¬ (k : Int) < (s.size : Int) := by omega
      have hk2 : k = s.size := by omega
      have hn2 : n' ≤ 2 + 6 * s.size := by omega
      clear hk2
      go_wp2_with (at_builtin; refine wpList_append_lies _ rfl _ _ 23 rfl base 5 i0 (.int .u8 0) 1 1 Try.underlying23 hi hz0 hz1 hz2 rfl (by decide) (.slice (some ⟨g', 0, none⟩) n' cap') n' (xs ++ .int .u8 34 :: ys) rfl (HO.out.alloc _) ⟨wr.heap.size, 0, none⟩ 1 1 [.int .u8 34] rfl rfl (cell_one_new _ _ _) (by simp [Value.oneCell']) (by omega) (by unfold maxLen; omega) (by omega) (by simp; omega) (wr.heap.size + 1) (by simp) ?_; intro g2 cap2 w2 hO2 hgrow hat hglt)
      have hB2 := below_app (hBr.alloc hbr _) (by simp; omega) (HO.out.alloc _) hgrow
      have hb2 := Nat.le_trans hbr (Nat.le_trans (by simp) hgrow.size)
      clear hgrow hat hglt
      go_ret
      exact ⟨g2, cap2, n' + 1, _, ys ++ [.int .u8 34], rfl, by simpa using hO2, rfl, by omega, hb2, hB2⟩
end Go.Proofs.Qxb6609255a
