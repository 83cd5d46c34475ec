/-
  'zzBytes_..' answers some bool and touches nothing; 'zzMin'.
-/
import Derived.Test.Qxb6612990aLetGo
namespace Go.Proofs.Qxb6612990a
open Go.RowKit

/-- The value is a slice of the strings ss, of whatever length. -/
def StrsIn (w : World) (v : Value) (ss : List ByteArray) : Prop :=
  ∃ a c, v = .slice a ss.length c ∧ ss.length ≤ maxLen ∧ ∀ i (h : i < ss.length), ∃ b o, a = some ⟨b, o, none⟩ ∧ w.cell? ⟨b, o + i, none⟩ = some (.string ss[i])

set_option maxHeartbeats 400000 in
theorem min_any (a b : Int) (w : World) : Calls Try.prog 13 #[.int .i64 a, .int .i64 b] w fun e w' => e = .returned (.int .i64 (min a b)) ∧ w' = w := by
  by_cases h : a < b
  · rw [show min a b = a by omega]
    go_enter Try.func13, Try.ntmps13
    go_wp2
    go_ret
    exact ⟨rfl, rfl⟩
  · rw [show min a b = b by omega]
    go_enter Try.func13, Try.ntmps13
    go_wp2
    go_ret
    exact ⟨rfl, rfl⟩

def IsBool (e : Ending) : Prop := ∃ b, e = .returned (.bool b)

set_option maxRecDepth 10000 in
set_option maxHeartbeats 1000000 in
theorem bytes_any {w : World} {v1 v2 : Value} {s1 s2 : List ByteArray} (h1 : StrsIn w v1 s1) (h2 : StrsIn w v2 s2) :
    Calls Try.prog 10 #[v1, v2] w fun e w' => IsBool e ∧ w' = w := by
  obtain ⟨a, c, rfl, hl1, hs1⟩ := h1
  obtain ⟨a', c', rfl, hl2, hs2⟩ := h2
  obtain ⟨n, hn⟩ : ∃ n, s1.length = n := ⟨_, rfl⟩
  obtain ⟨m, hm⟩ : ∃ m, s2.length = m := ⟨_, rfl⟩
  unfold maxLen at hl1 hl2
  rw [hn] at hl1 ⊢
  rw [hm] at hl2 ⊢
  go_enter Try.func10, Try.ntmps10
  go_wp2
  · go_ret
    exact ⟨⟨_, rfl⟩, rfl⟩
  have hn20 : (n : Int) ≤ 1048576 := by assumption
  go_loop [5, 6] (fun z i => ∃ (k : Nat) (y : Int), k ≤ n ∧ i = .int .i64 k ∧ z = .int .i64 y ∧ 0 ≤ y ∧ y ≤ 1048576) (fun _ i => n - (intOf i).toNat)
  case atStart => exact ⟨0, n, Nat.zero_le _, rfl, rfl, by omega, by omega⟩
  case round =>
    obtain ⟨k, y, hk, rfl, rfl, hy0, hy1⟩ := hrel
    by_cases hlt : k < n
    · obtain ⟨ad, hix, hcell⟩ := str_at (c := c) hn hs1 k hlt
      have hlt' : (k : Int) < (n : Int) := by omega
      generalize s1.getD k ByteArray.empty = s at hcell
      clear hs1 hs2 hn hm
      by_cases hz : 1048576 < (s.size : Int)
      · go_wp2
        go_ret
        exact ⟨⟨_, rfl⟩, rfl⟩
      · by_cases hz2 : 1048576 < y + (s.size : Int)
        · go_wp2
          go_ret
          exact ⟨⟨_, rfl⟩, rfl⟩
        · go_wp2
          go_round
          case rel => exact ⟨k + 1, y + s.size, by omega, by go_num, rfl, by omega, by omega⟩
          case measure => simp [intOf]; omega
    · have hge : ¬ (k : Int) < (n : Int) := by omega
      clear hs1 hn
      go_wp2
      · go_ret
        exact ⟨⟨_, rfl⟩, rfl⟩
      · go_ret
        exact ⟨⟨_, rfl⟩, rfl⟩
      have hm20 : (m : Int) ≤ 1048576 := by assumption
      go_loop [5, 7] (fun z i => ∃ (k : Nat) (y : Int), k ≤ m ∧ i = .int .i64 k ∧ z = .int .i64 y ∧ 0 ≤ y ∧ y ≤ 1048576) (fun _ i => m - (intOf i).toNat)
      case atStart => exact ⟨0, _, Nat.zero_le _, rfl, rfl, by omega, by omega⟩
      case round =>
        obtain ⟨k', y', hk', rfl, rfl, hy0', hy1'⟩ := hrel
        by_cases hlt : k' < m
        · obtain ⟨ad, hix, hcell⟩ := str_at (c := c') hm hs2 k' hlt
          have hlt' : (k' : Int) < (m : Int) := by omega
          generalize s2.getD k' ByteArray.empty = s at hcell
          clear hs2 hm
          by_cases hz : 1048576 < (s.size : Int)
          · go_wp2
            go_ret
            exact ⟨⟨_, rfl⟩, rfl⟩
          · by_cases hz2 : 1048576 < y' + (s.size : Int)
            · go_wp2
              go_ret
              exact ⟨⟨_, rfl⟩, rfl⟩
            · go_wp2
              go_round
              case rel => exact ⟨k' + 1, y' + s.size, by omega, by go_num, rfl, by omega, by omega⟩
              case measure => simp [intOf]; omega
        · have hge' : ¬ (k' : Int) < (m : Int) := by omega
          clear hs2 hm
          go_wp2
          go_ret
          exact ⟨⟨_, rfl⟩, rfl⟩
end Go.Proofs.Qxb6612990a
