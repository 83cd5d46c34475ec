/-
  The queues in memory: 'St': what the blocks hold; and the functions that only read them.
-/
import Derived.Test.Qxb6612990aRows
import Derived.Test.Qxb6612990aMap
import Derived.WalkKit
import Derived.WalkSpells
import Derived.WalkLawsBesides
namespace Go.Proofs.Qxb6612990a
open Go.RowKit

/-- The value is a slice whose elements are the pointers to the turns of q. -/
def RowAt (w : World) (tb : Nat → Nat) (v : Value) (q : List Nat) : Prop :=
  ∃ g o cap, v = .slice (some ⟨g, o, none⟩) q.length cap ∧ q.length ≤ cap ∧ cap ≤ maxLen ∧ ∀ i (h : i < q.length), w.cell? ⟨g, o + i, none⟩ = some (.pointer (some ⟨tb q[i], 0, none⟩))

structure St (w : World) (bs bm n : Nat) (ws : Nat → ByteArray) (tb cb : Nat → Nat) (cl : Nat → Bool) (X : List Ent) : Prop where
  fld : w.cell? ⟨bs, 2, none⟩ = some (.map (some bm))
  map : ∃ clock, w.heap[bm]? = some (.map (toEs X) clock)
  nod : (keys X).Nodup
  row : ∀ x ∈ X, x.q ≠ [] ∧ RowAt w tb x.val x.q
  own : ∀ x ∈ X, x.q.Nodup ∧ ∀ j ∈ x.q, j < n ∧ ws j = x.key ∧ cl j = false
  chn : ∀ j, j < n → w.cell? ⟨tb j, 1, none⟩ = some (.chan (some (cb j))) ∧ w.heap[cb j]? = some (.chan 0 #[] (cl j) 0 0 false)
  inj : ∀ i j, i < n → j < n → cb i = cb j → i = j

section
variable {w : World} {bs bm n : Nat} {ws : Nat → ByteArray} {tb cb : Nat → Nat} {cl : Nat → Bool} {X : List Ent}

theorem St.drewN (S : St w bs bm n ws tb cb cl X) (m : Nat) : St (w.drewN m) bs bm n ws tb cb cl X := ⟨S.fld, S.map, S.nod, S.row, S.own, S.chn, S.inj⟩

/-- The look-up in words of the queue: the slice that stands for it, or nil and nothing. -/
theorem St.look (S : St w bs bm n ws tb cb cl X) (k : ByteArray) (ok : Bool) :
    ∃ v, (Instr.lookup 59 (.map (some bm)) (.string k) ok).run Try.prog w = .ok (if ok then .tuple #[v, .bool (decide (Qf k X ≠ []))] else v) w ∧
      ((Qf k X = [] ∧ v = .slice none 0 0) ∨ RowAt w tb v (Qf k X) ∧ Qf k X ≠ []) := by
  obtain ⟨clock, hb⟩ := S.map
  have hrun := run_lookup_ents (P := Try.prog) (t := 59) Try.underlying59 Try.underlying9 (Try.zeroValue32 w) hb k ok
  rcases at_key k (.slice none 0 0) X with ⟨x, hx, hk, h1, h2, h3⟩ | ⟨hk, h1, h2, h3⟩
  · obtain ⟨r1, r2⟩ := S.row x hx
    refine ⟨x.val, ?_, Or.inr ⟨by rw [h2]; exact r2, by rw [h2]; exact r1⟩⟩
    rw [hrun, h1, h3, h2]
    simp [r1]
  · refine ⟨_, ?_, Or.inl ⟨h2, rfl⟩⟩
    rw [hrun, h1, h3, h2]
    simp

theorem maxLen_le : maxLen ≤ 9223372036854775807 := by unfold maxLen; omega

set_option maxHeartbeats 400000 in
theorem queueLen_any (S : St w bs bm n ws tb cb cl X) (k : ByteArray) :
    Calls Try.prog 15 #[.pointer (some ⟨bs, 0, none⟩), .string k] w fun e w' => e = .returned (.int .i64 (Qf k X).length) ∧ w' = w := by
  obtain ⟨v, hrun, hv⟩ := S.look k false
  have hf := S.fld
  have hl : ∃ a c, v = .slice a (Qf k X).length c := by
    rcases hv with ⟨h1, rfl⟩ | ⟨⟨g, o, cap, rfl, _⟩, _⟩
    · exact ⟨_, _, by rw [h1]; rfl⟩
    · exact ⟨_, _, rfl⟩
  obtain ⟨a, c, rfl⟩ := hl
  clear hv
  simp only [Bool.false_eq_true, if_false] at hrun
  generalize Qf k X = q at *
  go_enter Try.func15, Try.ntmps15
  go_wp2
  go_ret
  exact ⟨rfl, rfl⟩

set_option maxHeartbeats 400000 in
theorem hasQueue_any (S : St w bs bm n ws tb cb cl X) (k : ByteArray) :
    Calls Try.prog 16 #[.pointer (some ⟨bs, 0, none⟩), .string k] w fun e w' => e = .returned (.bool (decide (Qf k X ≠ []))) ∧ w' = w := by
  obtain ⟨v, hrun, _⟩ := S.look k true
  have hf := S.fld
  simp only [if_true] at hrun
  generalize decide (Qf k X ≠ []) = b at *
  go_enter Try.func16, Try.ntmps16
  go_wp2
  go_ret
  exact ⟨rfl, rfl⟩

set_option maxHeartbeats 400000 in
theorem queueAt_any (S : St w bs bm n ws tb cb cl X) (k : ByteArray) (i : Nat) (hi : i < (Qf k X).length) :
    Calls Try.prog 17 #[.pointer (some ⟨bs, 0, none⟩), .string k, .int .i64 i] w fun e w' => e = .returned (.pointer (some ⟨tb ((Qf k X)[i]), 0, none⟩)) ∧ w' = w := by
  obtain ⟨v, hrun, hv⟩ := S.look k false
  have hf := S.fld
  rcases hv with ⟨h1, _⟩ | ⟨⟨g, o, cap, rfl, h2, h3, hc⟩, _⟩
  · rw [h1] at hi; simp at hi
  simp only [Bool.false_eq_true, if_false] at hrun
  have hci := hc i hi
  clear hc
  have hm := maxLen_le
  generalize Qf k X = q at *
  generalize tb q[i] = tt at *
  go_enter Try.func17, Try.ntmps17
  go_wp2
  go_ret
  exact ⟨rfl, rfl⟩

set_option maxHeartbeats 400000 in
theorem queueRows_any (S : St w bs bm n ws tb cb cl X) :
    Calls Try.prog 18 #[.pointer (some ⟨bs, 0, none⟩)] w fun e w' => e = .returned (.int .i64 X.length) ∧ w' = w := by
  obtain ⟨clock, hb⟩ := S.map
  have hf := S.fld
  have hlen : ∀ ty, (Builtin.len_ #[59] ty #[.map (some bm)]).run Try.prog w = .ok (.int .i64 X.length) w := by
    intro ty
    simp [Builtin.len_, MapKept.run_getObj_map hb, run_underlying Try.underlying59, toEs, goInt, Result.andThen]
  go_enter Try.func18, Try.ntmps18
  go_wp2
  go_ret
  exact ⟨rfl, rfl⟩
end
end Go.Proofs.Qxb6612990a
