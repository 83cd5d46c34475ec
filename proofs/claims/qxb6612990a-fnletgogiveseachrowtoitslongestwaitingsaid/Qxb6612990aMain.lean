/-
  The law's own function: the walk.
-/
import Derived.Test.Qxb6612990aSum
namespace Go.Proofs.Qxb6612990a
open Go.RowKit

/-- A slice that came in is nil, or has an address. -/
def nilOrNot (v : Value) : Prop := v = .slice none 0 0 ∨ ∃ ad n c, v = .slice (some ad) n c

set_option maxRecDepth 10000 in
set_option maxHeartbeats 2000000 in
theorem law_any {w : World} {v1 v2 : Value} {s1 s2 : List ByteArray} (h1 : StrsIn w v1 s1) (h2 : StrsIn w v2 s2) (q1 : nilOrNot v1) (q2 : nilOrNot v2) :
    Calls Try.prog 4 #[v1, v2] w fun e w' => e = .returned (.bool true) ∧ Below w.heap.size w w' := by
  have hby := bytes_any h1 h2
  obtain ⟨a, c, rfl, hl1, hs1⟩ := h1
  obtain ⟨a', c', rfl, hl2, hs2⟩ := h2
  obtain ⟨n, hn⟩ : ∃ n, s1.length = n := ⟨_, rfl⟩
  obtain ⟨m, hm⟩ : ∃ m, s2.length = m := ⟨_, rfl⟩
  rw [hn] at hl1 hby q1 ⊢
  rw [hm] at hl2 hby q2 ⊢
  unfold maxLen at hl1 hl2
  by_cases hbig : 4096 < n ∨ 4096 < m
  · by_cases hb1 : 4096 < n
    · have hn' : (4096 : Int) < (n : Int) := by omega
      clear hs1 hs2 q1 q2 hn hm hbig hl1 hl2
      go_enter Try.func4, Try.ntmps4
      go_wp2_with fail
      refine hby.mono ?_
      rintro e w' ⟨⟨b, rfl⟩, rfl⟩
      cases b
      all_goals
        go_wp2
        go_ret
        exact ⟨rfl, Below.refl _ _⟩
    · have hn' : ¬ (4096 : Int) < (n : Int) := by omega
      have hm' : (4096 : Int) < (m : Int) := by omega
      clear hs1 hs2 q1 q2 hn hm hbig hl1 hl2
      go_enter Try.func4, Try.ntmps4
      go_wp2_with fail
      refine hby.mono ?_
      rintro e w' ⟨⟨b, rfl⟩, rfl⟩
      cases b
      all_goals
        go_wp2
        go_ret
        exact ⟨rfl, Below.refl _ _⟩
  have hn' : ¬ (4096 : Int) < (n : Int) := by omega
  have hm' : ¬ (4096 : Int) < (m : Int) := by omega
  clear hbig hl1 hl2
  go_enter Try.func4, Try.ntmps4
  go_wp2_with fail
  refine hby.mono ?_
  rintro e w' ⟨⟨b, rfl⟩, rfl⟩
  cases b
  · go_wp2
    go_ret
    exact ⟨rfl, Below.refl _ _⟩
  have hneq := fun w => run_neq_slice_nil_any (P := Try.prog) w 22 9 a n c 0 0 Try.underlying22
  have hneq' := fun w => run_neq_slice_nil_any (P := Try.prog) w 22 9 a' m c' 0 0 Try.underlying22
  have hmk := fun w => run_make_row' (P := Try.prog) 22 9 (.string ByteArray.empty) 16 Try.underlying22 info9 rfl .i64 .i64 n (by omega) (by omega) w
  have hmk' := fun w => run_make_row' (P := Try.prog) 22 9 (.string ByteArray.empty) 16 Try.underlying22 info9 rfl .i64 .i64 m (by omega) (by omega) w
  go_upto_if 36 with fail
  go_cut [0] (fun x0 wc => (∃ a0 c0, x0 = .slice a0 n c0 ∧ StrsAt wc (.slice a0 n c0) s1) ∧ Below w'.heap.size w' wc)
  case first =>
    rcases q1 with q1 | ⟨ad, n0, c0, q1⟩
    · cases q1
      go_wp2
      go_meet
      case rel => exact ⟨⟨_, _, rfl, _, _, by rw [hn], by omega, fun i hi => hs1 i hi⟩, Below.refl _ _⟩
    · cases q1
      have hcp := fun ty => copy_strs (c := c) hn hs1 rfl ty
      go_wp2
      go_meet
      case rel => exact ⟨⟨_, _, rfl, by have := strsAt_new w' s1 (by omega); rw [hn] at this; exact this⟩, (Below.refl _ _).alloc (Nat.le_refl _) _⟩
  case rest =>
    obtain ⟨⟨a0, c0, rfl, hst⟩, hB⟩ := hcut
    clear hneq hmk hs1
    have hs2' : ∀ i (h : i < s2.length), ∃ b o, a' = some ⟨b, o, none⟩ ∧ wc.cell? ⟨b, o + i, none⟩ = some (.string s2[i]) := fun i hi => by
      obtain ⟨b, o, e, hc⟩ := hs2 i hi
      exact ⟨b, o, e, below_cells hB _ _ hc⟩
    clear hs2
    go_upto_if 45 with fail
    go_cut [1] (fun x1 wd => (∃ a1 c1, x1 = .slice a1 m c1 ∧ StrsAt wd (.slice a1 m c1) s2) ∧ Below wc.heap.size wc wd)
    case first =>
      rcases q2 with q2 | ⟨ad, n0, c0', q2⟩
      · cases q2
        go_wp2
        go_meet
        case rel => exact ⟨⟨_, _, rfl, _, _, by rw [hm], by omega, fun i hi => hs2' i hi⟩, Below.refl _ _⟩
      · cases q2
        have hcp := fun ty => copy_strs (c := c') hm hs2' rfl ty
        go_wp2
        go_meet
        case rel => exact ⟨⟨_, _, rfl, by have := strsAt_new wc s2 (by omega); rw [hm] at this; exact this⟩, (Below.refl _ _).alloc (Nat.le_refl _) _⟩
    case rest =>
      obtain ⟨⟨a1, c1, rfl, hst2⟩, hB2⟩ := hcut
      rename_i hK
      exact hK _ _ (rest5 _ _ _ _ _ _ _ _ _ _ _ _ _ _ _ _ _ _ _ _ _ _ _ _ _ _ _ _ _ _ _ _ _ _ _ _ _ _ _ _ _ _ _ _ _ _ _ _ _ _ _ _ _ _ _ _ _ _ _ _ _ _ _ _ _ _ _ _ _ _ _ _ _ _ _ _ _ _ _ _ _ _ _ _ _ _ _ _ _ _ _ _ _ _ _ _ _ _ _ _ _ _ _ _ _ _ _ _ _ _ _ _ _ _ _ _ _ _ _ _ _ _ _ _ _ _ _ _ _ _ _ _ _ _ _ _ _ _ _ _ _ _ _ _ _ _ _ _ _ _ _ _ _ _ _ _ _ _ _ _ _ _ _ _ _ _ _ _ _ _ _ _ _ _ _ _ _ _ _ _ _ _ _ _ _ _ _ _ _ _ _ _ _ _ _ _ _ _ _ _ _ _ _ _ _ hn hm (strsAt_kept hst (fun a u _ h => below_cells hB2 a u h)) hst2 (hB.trans (hB2.mono hB.size)) (Nat.le_trans hB.size hB2.size))
end Go.Proofs.Qxb6612990a
