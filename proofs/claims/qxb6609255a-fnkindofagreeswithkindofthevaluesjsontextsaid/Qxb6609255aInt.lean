/-
  'zzAppendInt': what it appends opens with a minus or a digit.
-/
import Derived.Test.Qxb6609255aJson
import Derived.OpenShut
namespace Go.Proofs.Qxb6609255a
open Go.RowKit

/-- u has at most p + 1 decimal digits, and fits 64 bits. -/
def Small (u p : Nat) : Prop := u < 10 ^ (p + 1) ∧ u < 18446744073709551616
def Bytes (c : Array Value) : Prop := ∀ x ∈ c.toList, ∃ d : Int, x = .int .u8 d

def digitish (h : Value) : Prop := ∃ c : Int, h = .int .u8 c ∧ (c = 45 ∨ (48 ≤ c ∧ c ≤ 57))

theorem wrap_u64 (x : Int) : 0 ≤ IntKind.u64.wrap x ∧ IntKind.u64.wrap x ≤ 18446744073709551615 := by
  have h : (Lit.int .u64 (IntKind.u64.wrap x)).wf = true := Go.wf_wrap .u64 x
  have := Go.bounds_u64 h
  omega

theorem slice_buf (b p : Nat) (hp : p ≤ 19) (w : World) : (Instr.sliceAt 42 (.pointer (some ⟨b, 0, none⟩)) (some (.int .i64 (p : Int))) none none).run Try.prog w = .ok (.slice (some ⟨b, p, none⟩) (20 - p) (20 - p)) w := by
  have h1 : p ≤ 20 := by omega
  have h2 : ¬ 20 = p := by omega
  have hadd : (⟨b, 0, none⟩ : Addr).add p = ⟨b, p, none⟩ := by unfold Addr.add; split <;> simp_all
  simp [Instr.sliceAt, run_underlying Try.underlying42, Instr.sliceBounds, Instr.sliceBound, Instr.sureAddr, asIntOf, h1, h2, Try.sizeOf5, hadd, Result.andThen]

theorem put_digit {base bb p N : Nat} {wr : World} {V : Value} {XS : List Value} {c : Array Value} (hO : wr.ownsRow base 5 1 V N XS) (hbuf : wr.heap[bb]? = some (.cells c 42 (0, 0))) (hcs : c.size = 20) (hby : Bytes c) (D : Int) :
    (wr.setCell ⟨bb, p, none⟩ (.int .u8 D)).heap[bb]? = some (.cells (c.setIfInBounds p (.int .u8 D)) 42 (0, 0)) ∧ (c.setIfInBounds p (.int .u8 D)).size = 20 ∧ Bytes (c.setIfInBounds p (.int .u8 D)) ∧ (wr.setCell ⟨bb, p, none⟩ (.int .u8 D)).ownsRow base 5 1 V N XS := by
  refine ⟨by simp [World.setCell, Array.getElem?_modify, hbuf], by simpa using hcs, fun x hx => ?_, ?_⟩
  · rw [Array.toList_setIfInBounds] at hx
    rcases List.mem_or_eq_of_mem_set hx with h | h
    · exact hby x h
    · exact ⟨D, h⟩
  · refine hO.kept (row := some bb) ⟨rfl, rfl, rfl, by simp, fun i _ hne => Below.heap_setCell _ _ _ _ (fun e => hne (by rw [e]))⟩ ?_
    rcases hO.2 with ⟨rfl, _⟩ | ⟨g, cap, cur, rfl, _, hg, _⟩
    · exact Or.inl rfl
    · refine Or.inr (fun e => ?_)
      simp only [Value.ownBlock, Option.some.injEq] at e
      rw [e, hbuf] at hg
      cases hg

theorem small_next {u p : Nat} (h : Small u p) (hten : ¬ u < 10) : ∃ p', p = p' + 1 ∧ Small (u / 10) p' := by
  obtain ⟨h1, h2⟩ := h
  cases p with
  | zero => simp at h1; omega
  | succ p' =>
    refine ⟨p', rfl, ?_, by omega⟩
    rw [Nat.pow_succ] at h1
    exact Nat.div_lt_of_lt_mul (by rw [Nat.mul_comm]; exact h1)

/-- The digits that lie from p on, as the append meets them. -/
theorem digits_at {w : World} {bb p : Nat} {c : Array Value} (hbuf : w.heap[bb]? = some (.cells c 42 (0, 0))) : ∀ j u, (c.toList.drop p)[j]? = some u → w.cell? ((⟨bb, p, none⟩ : Addr).add j) = some u := by
  intro j u hj
  have hadd : (⟨bb, p, none⟩ : Addr).add j = ⟨bb, p + j, none⟩ := by unfold Addr.add; split <;> simp_all
  rw [hadd]
  rw [List.getElem?_drop] at hj
  simp only [World.cell?, hbuf]
  simpa using hj

theorem digits_head {c : Array Value} {p : Nat} {D : Int} (hcs : c.size = 20) (hp : p ≤ 19) : ∃ ys, (c.setIfInBounds p (.int .u8 D)).toList.drop p = .int .u8 D :: ys := by
  refine ⟨(c.setIfInBounds p (.int .u8 D)).toList.drop (p + 1), ?_⟩
  rw [List.drop_eq_getElem_cons (by simp; omega)]
  congr 1
  simp

theorem digits_len {c : Array Value} {p : Nat} (h : c.size = 20) : (c.toList.drop p).length = (20 - p) * 1 := by simp [h]

theorem one_cells {c : Array Value} {p : Nat} (h : Bytes c) : ∀ u ∈ c.toList.drop p, u.oneCell' = true := by
  intro u hu
  obtain ⟨d, rfl⟩ := h u (List.mem_of_mem_drop hu)
  rfl

set_option maxRecDepth 10000 in
set_option maxHeartbeats 1000000 in
theorem int_pos {base n : Nat} {v : Value} {xs : List Value} {w : World} (hown : w.ownsRow base 5 1 v n xs) (hb : base ≤ w.heap.size) (hn : n ≤ 1000010) (i : Int) (h0 : ¬ i < 0) (h1 : i ≤ 9223372036854775807) :
    Calls Try.prog 8 #[v, .int .i64 i] w fun e w' => Got base 2000000 w xs digitish e w' := by
  obtain ⟨i0, hi, hz0, hz1, hz2⟩ := info_parts info5
  have hown1 : Hid (w.ownsRow base 5 1 v n xs) := hown
  clear hown
  go_enter Try.func8, Try.ntmps8
  go_wp2
  go_loopw [5, 7] (fun z i wr => ∃ (p u : Nat) (c : Array Value), p ≤ 19 ∧ i = .int .i64 ((p : Int) + 1) ∧ z = .int .u64 (u : Nat) ∧ Small u p ∧ wr.heap[w.heap.size]? = some (.cells c 42 (0, 0)) ∧ c.size = 20 ∧ Bytes c ∧ wr.ownsRow base 5 1 (v) (n) (xs) ∧ Below base w wr ∧ base ≤ wr.heap.size) (fun _ i _ => (intOf i).toNat)
  case atStart => exact ⟨19, i.toNat, _, by omega, by go_num, by rw [Int.toNat_of_nonneg (by omega)], ⟨by omega, by omega⟩, heap_alloc_new w _, rfl, by simp [Bytes], hown1.out.alloc _, (Below.refl _ _).alloc hb _, by simp; omega⟩
  case round =>
    obtain ⟨p, u, c, hp, rfl, rfl, hu, hbuf, hcs, hby, hO, hBr, hbr⟩ := hrel
    have hp1 : (p : Int) < 20 := by omega
    have hu64 : (u : Int) ≤ 18446744073709551615 := by have := hu.2; omega
    have hu0 : (0 : Int) ≤ (u : Int) := by omega
    have hd : (0 : Int) ≤ (u : Int) % 10 ∧ (u : Int) % 10 < 10 := by omega
    have hcell : wr.cell? ⟨w.heap.size, p, none⟩ = some (c.getD p .nilFunc) := by
      simp only [World.cell?, hbuf]
      simp [hcs, show p < 20 by omega]
    have hfz : wr.frozen? ⟨w.heap.size, p, none⟩ = false := by simp [World.frozen?, hbuf]
    obtain ⟨q1, q2, q3, q4⟩ := put_digit (p := p) hO hbuf hcs hby (48 + (u : Int) % 10)
    obtain ⟨zs, hzs⟩ := digits_head (D := 48 + (u : Int) % 10) hcs hp
    have hB2 := hBr.setCell (p := ⟨w.heap.size, p, none⟩) (hb) (.int .u8 (48 + (u : Int) % 10))
    have HU : Hid (Small u p) := hu
    have Q1 : Hid ((wr.setCell ⟨w.heap.size, p, none⟩ (.int .u8 (48 + (u : Int) % 10))).heap[w.heap.size]? = some (.cells (c.setIfInBounds p (.int .u8 (48 + (u : Int) % 10))) 42 (0, 0))) := q1
    have Q2 : Hid ((c.setIfInBounds p (.int .u8 (48 + (u : Int) % 10))).size = 20) := q2
    have Q4 : Hid ((wr.setCell ⟨w.heap.size, p, none⟩ (.int .u8 (48 + (u : Int) % 10))).ownsRow base 5 1 (v) (n) (xs)) := q4
    have HZ : Hid ((c.setIfInBounds p (.int .u8 (48 + (u : Int) % 10))).toList.drop p = .int .u8 (48 + (u : Int) % 10) :: zs) := hzs
    generalize c.getD p .nilFunc = old at hcell
    clear hu hO hbuf hby hcs q1 q2 q4 hzs
    by_cases hten : u < 10
    · have hq : ((u : Int) / 10 == 0) = true := by simp; omega
      have hsl := slice_buf (w.heap.size) p hp
      go_wp2_with (at_builtin; refine wpList_append_lies _ rfl _ _ 23 rfl base 5 i0 (.int .u8 0) 1 1 Try.underlying23 hi hz0 hz1 hz2 rfl (by decide) (v) (n) (xs) rfl Q4.out ⟨w.heap.size, p, none⟩ (20 - p) (20 - p) ((c.setIfInBounds p (.int .u8 (48 + (u : Int) % 10))).toList.drop p) rfl (digits_len Q2.out) (digits_at Q1.out) (one_cells q3) (by omega) (by unfold maxLen; omega) (by omega) (by simp; omega) _ rfl ?_; intro g2 cap2 w2 hO2 hgrow hat hglt)
      have hB3 := below_app hB2 (by simp; omega) Q4.out hgrow
      have hb3 : base ≤ w2.heap.size := Nat.le_trans hbr (Nat.le_trans (by simp) hgrow.size)
      clear hgrow hat hglt
      rw [HZ.out] at hO2
      have hO3 : Hid (w2.ownsRow base 5 1 (.slice (some ⟨g2, 0, none⟩) (n + (20 - p)) cap2) (n + (20 - p)) (xs ++ .int .u8 (48 + (u : Int) % 10) :: zs)) := hO2
      clear hO2
      go_ret
      exact ⟨g2, cap2, _, _, zs, rfl, hO3.out, ⟨_, rfl, by omega⟩, by omega, hb3, hB3⟩
    · have hq : ((u : Int) / 10 == 0) = false := by simp; omega
      obtain ⟨p', hpp, hsm⟩ := small_next HU.out hten
      have HP : Hid (p = p' + 1) := hpp
      have HM : Hid (Small (u / 10) p') := hsm
      clear hpp hsm
      go_wp2
      go_roundw
      case rel => exact ⟨p', u / 10, _, by have := HP.out; omega, by have := HP.out; go_num, by go_num, HM.out, Q1.out, Q2.out, q3, Q4.out, hB2, by simpa using hbr⟩
      case measure => simp [intOf]

set_option maxRecDepth 10000 in
set_option maxHeartbeats 1000000 in
theorem int_neg {base n : Nat} {v : Value} {xs : List Value} {w : World} (hown : w.ownsRow base 5 1 v n xs) (hb : base ≤ w.heap.size) (hn : n ≤ 1000010) (i : Int) (h0 : i < 0) :
    Calls Try.prog 8 #[v, .int .i64 i] w fun e w' => Got base 2000000 w xs digitish e w' := by
  obtain ⟨i0, hi, hz0, hz1, hz2⟩ := info_parts info5
  have hown1 : Hid (w.ownsRow base 5 1 v n xs) := hown
  clear hown
  go_enter Try.func8, Try.ntmps8
  go_wp2_with (at_builtin; refine wpList_append_lies _ rfl _ _ 23 rfl base 5 i0 (.int .u8 0) 1 1 Try.underlying23 hi hz0 hz1 hz2 rfl (by decide) v n xs rfl (hown1.out.alloc _) ⟨w.heap.size, 0, none⟩ 1 1 [.int .u8 45] rfl rfl (cell_one_new _ _ _) (by simp [Value.oneCell']) (by omega) (by unfold maxLen; omega) (by omega) (by simp; omega) (w.heap.size + 1) (by simp) ?_; intro g cap w1 hown2 hgrow hat hglt)
  have hB1 : Below base w w1 := below_app ((Below.refl _ _).alloc hb _) (by simp; omega) (hown1.out.alloc _) hgrow
  have hbw : base ≤ w1.heap.size := Nat.le_trans hb hB1.size
  have hU := wrap_u64 (-IntKind.u64.wrap i)
  clear hgrow hat hglt
  go_loopw [5, 7] (fun z i wr => ∃ (p u : Nat) (c : Array Value), p ≤ 19 ∧ i = .int .i64 ((p : Int) + 1) ∧ z = .int .u64 (u : Nat) ∧ Small u p ∧ wr.heap[w1.heap.size]? = some (.cells c 42 (0, 0)) ∧ c.size = 20 ∧ Bytes c ∧ wr.ownsRow base 5 1 (.slice (some ⟨g, 0, none⟩) (n + 1) cap) (n + 1) (xs ++ [.int .u8 45]) ∧ Below base w wr ∧ base ≤ wr.heap.size) (fun _ i _ => (intOf i).toNat)
  case atStart => exact ⟨19, (IntKind.u64.wrap (-IntKind.u64.wrap i)).toNat, _, by omega, by go_num, by rw [Int.toNat_of_nonneg hU.1], ⟨by omega, by omega⟩, heap_alloc_new w1 _, rfl, by simp [Bytes], hown2.alloc _, hB1.alloc hbw _, by simp; omega⟩
  case round =>
    obtain ⟨p, u, c, hp, rfl, rfl, hu, hbuf, hcs, hby, hO, hBr, hbr⟩ := hrel
    have hp1 : (p : Int) < 20 := by omega
    have hu64 : (u : Int) ≤ 18446744073709551615 := by have := hu.2; omega
    have hu0 : (0 : Int) ≤ (u : Int) := by omega
    have hd : (0 : Int) ≤ (u : Int) % 10 ∧ (u : Int) % 10 < 10 := by omega
    have hcell : wr.cell? ⟨w1.heap.size, p, none⟩ = some (c.getD p .nilFunc) := by
      simp only [World.cell?, hbuf]
      simp [hcs, show p < 20 by omega]
    have hfz : wr.frozen? ⟨w1.heap.size, p, none⟩ = false := by simp [World.frozen?, hbuf]
    obtain ⟨q1, q2, q3, q4⟩ := put_digit (p := p) hO hbuf hcs hby (48 + (u : Int) % 10)
    obtain ⟨zs, hzs⟩ := digits_head (D := 48 + (u : Int) % 10) hcs hp
    have hB2 := hBr.setCell (p := ⟨w1.heap.size, p, none⟩) (hbw) (.int .u8 (48 + (u : Int) % 10))
    have HU : Hid (Small u p) := hu
    have Q1 : Hid ((wr.setCell ⟨w1.heap.size, p, none⟩ (.int .u8 (48 + (u : Int) % 10))).heap[w1.heap.size]? = some (.cells (c.setIfInBounds p (.int .u8 (48 + (u : Int) % 10))) 42 (0, 0))) := q1
    have Q2 : Hid ((c.setIfInBounds p (.int .u8 (48 + (u : Int) % 10))).size = 20) := q2
    have Q4 : Hid ((wr.setCell ⟨w1.heap.size, p, none⟩ (.int .u8 (48 + (u : Int) % 10))).ownsRow base 5 1 (.slice (some ⟨g, 0, none⟩) (n + 1) cap) (n + 1) (xs ++ [.int .u8 45])) := q4
    have HZ : Hid ((c.setIfInBounds p (.int .u8 (48 + (u : Int) % 10))).toList.drop p = .int .u8 (48 + (u : Int) % 10) :: zs) := hzs
    generalize c.getD p .nilFunc = old at hcell
    clear hu hO hbuf hby hcs q1 q2 q4 hzs
    by_cases hten : u < 10
    · have hq : ((u : Int) / 10 == 0) = true := by simp; omega
      have hsl := slice_buf (w1.heap.size) p hp
      go_wp2_with (at_builtin; refine wpList_append_lies _ rfl _ _ 23 rfl base 5 i0 (.int .u8 0) 1 1 Try.underlying23 hi hz0 hz1 hz2 rfl (by decide) (.slice (some ⟨g, 0, none⟩) (n + 1) cap) (n + 1) (xs ++ [.int .u8 45]) rfl Q4.out ⟨w1.heap.size, p, none⟩ (20 - p) (20 - p) ((c.setIfInBounds p (.int .u8 (48 + (u : Int) % 10))).toList.drop p) rfl (digits_len Q2.out) (digits_at Q1.out) (one_cells q3) (by omega) (by unfold maxLen; omega) (by omega) (by simp; omega) _ rfl ?_; intro g2 cap2 w2 hO2 hgrow hat hglt)
      have hB3 := below_app hB2 (by simp; omega) Q4.out hgrow
      have hb3 : base ≤ w2.heap.size := Nat.le_trans hbr (Nat.le_trans (by simp) hgrow.size)
      clear hgrow hat hglt
      rw [HZ.out] at hO2
      have hO3 : Hid (w2.ownsRow base 5 1 (.slice (some ⟨g2, 0, none⟩) (n + 1 + (20 - p)) cap2) (n + 1 + (20 - p)) (xs ++ [.int .u8 45] ++ .int .u8 (48 + (u : Int) % 10) :: zs)) := hO2
      clear hO2
      go_ret
      exact ⟨g2, cap2, _, _, .int .u8 (48 + (u : Int) % 10) :: zs, rfl, by have := hO3.out; rw [List.append_assoc] at this; exact this, ⟨_, rfl, Or.inl rfl⟩, by omega, hb3, hB3⟩
    · have hq : ((u : Int) / 10 == 0) = false := by simp; omega
      obtain ⟨p', hpp, hsm⟩ := small_next HU.out hten
      have HP : Hid (p = p' + 1) := hpp
      have HM : Hid (Small (u / 10) p') := hsm
      clear hpp hsm
      go_wp2
      go_roundw
      case rel => exact ⟨p', u / 10, _, by have := HP.out; omega, by have := HP.out; go_num, by go_num, HM.out, Q1.out, Q2.out, q3, Q4.out, hB2, by simpa using hbr⟩
      case measure => simp [intOf]

theorem int_any {base n : Nat} {v : Value} {xs : List Value} {w : World} (hown : w.ownsRow base 5 1 v n xs) (hb : base ≤ w.heap.size) (hn : n ≤ 1000010) (i : Int) (h1 : i ≤ 9223372036854775807) :
    Calls Try.prog 8 #[v, .int .i64 i] w fun e w' => Got base 2000000 w xs digitish e w' := by
  by_cases h : i < 0
  · exact int_neg hown hb hn i h
  · exact int_pos hown hb hn i h h1
end Go.Proofs.Qxb6609255a
