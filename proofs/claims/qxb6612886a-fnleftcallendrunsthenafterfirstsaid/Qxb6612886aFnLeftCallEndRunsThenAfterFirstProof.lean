/-
  The statement 'Rows.FnLeftCallEndRunsThenAfterFirstSaid', in the given shell.
-/
import Derived.Test.Qxb6612886aNew
import Derived.WalkKit
import Derived.ProofKit
import Derived.OpenShut
import Derived.ShutString
namespace Go.Proofs.Qxb6612886a.fnLeftCallEndRunsThenAfterFirst
open Go.ChangeShapes Go.WideShapes Go.ChangeAt Go.RowKit
open Go.ChangeMaps (open_string shut_string)
set_option linter.unusedVariables false      -- a walk need not use every 'w<i>' (that an integer argument fits its kind)

theorem own : ownKnob Try.prog.godebug = none := by kernel_rfl

/-! ### STEP 1: THE WALK -/
/-- What k calls of 'end' leave: the flag, and how often the counting closure ran. -/
def flagOf (c : Bool) (i : Nat) : Int := if c = true ∨ 0 < i then 1 else 0
def runsOf (c : Bool) (i : Nat) : Int := if c = true then (i : Int) else ((i - 1 : Nat) : Int)

theorem grown_le {w w' : World} (h : Grown w w') : w.heap.size ≤ w'.heap.size := h.2.2

set_option maxHeartbeats 1000000 in
theorem walk_in (a0 : Bool) (k : Nat) (hk : k ≤ 65536) (w : World) :
    Calls Try.prog 3 #[.bool a0, .int .i64 k] w fun e w' => e = .returned (.bool true) ∧ Grown w w' := by
  have hnew : Calls Try.prog 4 #[.bool a0] w fun e w' => e = .returned (.pointer (some ⟨w.heap.size + 1 + 1 + 1, 0, none⟩)) ∧ LC w' w.heap.size (flagOf a0 0) (runsOf a0 0) ∧ Grown w w' := by
    cases a0
    · exact new_false w
    · exact new_true w
  have hk0 : ¬ (k : Int) < 0 := by omega
  have hk1 : ¬ (65536 : Int) < (k : Int) := by omega
  go_enter Try.func3, Try.ntmps3
  go_wp2_with fail
  refine hnew.mono ?_
  rintro e w1 ⟨rfl, L0, G0⟩
  go_wp2_with fail
  go_loopw [6] (fun i wr => ∃ j : Nat, j ≤ k ∧ i = .int .i64 (j : Nat) ∧ LC wr w.heap.size (flagOf a0 j) (runsOf a0 j) ∧ Grown w wr) (fun i _ => k - (intOf i).toNat)
  case atStart => exact ⟨0, Nat.zero_le _, rfl, L0, G0⟩
  case round =>
    obtain ⟨j, hj, rfl, L, G⟩ := hrel
    by_cases hlt : j < k
    · have hlt' : (j : Int) < (k : Int) := by omega
      have hend : Hid (Calls Try.prog 5 #[.pointer (some ⟨w.heap.size + 1 + 1 + 1, 0, none⟩)] wr fun e w' => e = .returned (.tuple #[]) ∧ LC w' w.heap.size (flagOf a0 (j + 1)) (runsOf a0 (j + 1)) ∧ Grown w w') := by
        by_cases hf : a0 = true ∨ 0 < j
        · have e1 : flagOf a0 j = 1 := if_pos hf
          have e2 : flagOf a0 (j + 1) = 1 := if_pos (Or.inr (by omega))
          have e3 : runsOf a0 (j + 1) = runsOf a0 j + 1 := by
            unfold runsOf
            cases a0
            · simp at hf ⊢; omega
            · simp
          have e4 : 0 ≤ runsOf a0 j ∧ runsOf a0 j ≤ 65536 := by unfold runsOf; split <;> omega
          rw [e1] at L
          rw [e2, e3]
          refine (ZZend_later _ _ _ _ _ wr L.toc L.flag L.z2 L.fn L.var L.num L.z1 e4.1 e4.2).mono ?_
          rintro e w' ⟨rfl, rfl⟩
          exact ⟨rfl, (L.count _).drew.drew, ((G.setCell (by simp) _).drew).drew⟩
        · have hj0 : j = 0 := by
            by_cases h : 0 < j
            · exact absurd (Or.inr h) hf
            · omega
          have ha : a0 = false := by cases a0 <;> simp_all
          subst hj0 ha
          have e1 : flagOf false 0 = 0 := rfl
          have e2 : flagOf false (0 + 1) = 1 := rfl
          have e3 : runsOf false (0 + 1) = runsOf false 0 := rfl
          rw [e1] at L
          rw [e2, e3]
          refine (ZZend_first _ _ wr L.toc L.flag L.z2).mono ?_
          rintro e w' ⟨rfl, rfl⟩
          exact ⟨rfl, L.take.drew, (G.setCell (by simp; omega) _).drew⟩
      clear L G L0 G0 hnew
      go_wp2_with fail
      refine hend.out.mono ?_
      rintro e w' ⟨rfl, L', G'⟩
      go_wp2
      go_roundw
      case rel => exact ⟨j + 1, by omega, by go_num, L', G'⟩
      case measure => simp [intOf]; omega
    · have hge : ¬ (j : Int) < (k : Int) := by omega
      have hjk : j = k := by omega
      rw [hjk] at L
      have R : Hid (Calls Try.prog 6 #[.pointer (some ⟨w.heap.size + 1 + 1 + 1, 0, none⟩)] wr fun e w' => e = .returned (.int .i64 (runsOf a0 k)) ∧ w' = wr) := runs_any _ _ _ wr L.ton L.num
      have C : Hid (Calls Try.prog 7 #[.pointer (some ⟨w.heap.size + 1 + 1 + 1, 0, none⟩)] wr fun e w' => e = .returned (.bool (flagOf a0 k != 0)) ∧ w' = wr) := claimed_any _ _ _ wr L.toc L.flag
      clear L L0 G0 hnew hjk
      have hG : Hid (Grown w wr) := G
      clear G
      cases a0
      · by_cases hk0' : 0 < k
        · have e1 : runsOf false k = (k : Int) - 1 := by unfold runsOf; simp; omega
          have e2 : (flagOf false k != 0) = true := by simp [flagOf, hk0']
          rw [e1] at R
          rw [e2] at C
          clear e1 e2
          have hkp : (0 : Int) < (k : Int) := by omega
          go_wp2_with fail
          refine R.out.mono ?_
          rintro e w' ⟨rfl, rfl⟩
          go_wp2_with fail
          refine C.out.mono ?_
          rintro e w' ⟨rfl, rfl⟩
          go_wp2
          go_ret
          exact ⟨rfl, hG.out⟩
        · have hkz : k = 0 := by omega
          subst hkz
          have hkp : ¬ (0 : Int) < ((0 : Nat) : Int) := by omega
          go_wp2_with fail
          refine R.out.mono ?_
          rintro e w' ⟨rfl, rfl⟩
          go_wp2_with fail
          refine C.out.mono ?_
          rintro e w' ⟨rfl, rfl⟩
          go_wp2
          go_ret
          exact ⟨rfl, hG.out⟩
      · have e1 : runsOf true k = (k : Int) := by simp [runsOf]
        have e2 : (flagOf true k != 0) = true := by simp [flagOf]
        rw [e1] at R
        rw [e2] at C
        clear e1 e2
        go_wp2_with fail
        refine R.out.mono ?_
        rintro e w' ⟨rfl, rfl⟩
        go_wp2_with fail
        refine C.out.mono ?_
        rintro e w' ⟨rfl, rfl⟩
        go_wp2
        go_ret
        exact ⟨rfl, hG.out⟩

set_option maxHeartbeats 400000 in
theorem walk (a0 : Bool) (a1 : Int) (w1 : (Lit.int .i64 a1).wf = true) (w : World) :
    Calls Try.prog 3 #[.bool a0, .int .i64 a1] w fun e w' => e = .returned (.bool true) ∧ Grown w w' := by
  by_cases h0 : a1 < 0
  · clear w1
    go_enter Try.func3, Try.ntmps3
    go_wp2
    go_ret
    exact ⟨rfl, Grown.refl _⟩
  · by_cases h1 : 65536 < a1
    · clear w1
      go_enter Try.func3, Try.ntmps3
      go_wp2
      go_ret
      exact ⟨rfl, Grown.refl _⟩
    · obtain ⟨k, rfl⟩ : ∃ k : Nat, a1 = (k : Int) := ⟨a1.toNat, by omega⟩
      exact walk_in a0 k (by omega) w

/-! ### THE ROW's STEP: WRITTEN OUT: LEAVE IT -/
set_option maxRecDepth 100000 in
theorem lifted (os : Os) (started : os.Started) (H : Type) (enc : TypeId × Value → H) :
    ReturnsInHanded {} Try.checked os 3 .any (Rows.fnLeftCallEndRunsThenAfterFirstSpec.pre6 enc Try.prog Try.f3 Rows.fnLeftCallEndRunsThenAfterFirstRow.domain false) (Rows.fnLeftCallEndRunsThenAfterFirstSpec.post enc Try.prog Try.f3 false true false false) := by
  refine returnsInHanded_of_change (C := Try.checked) own started (by kernel_rfl) Try.func3
    (ChangeSpec.witness6 (enc := enc) (C := Try.checked) false ⟨#[], #[.bool false, .int .i64 0], []⟩ 8 (by kernel_rfl) (by kernel_rfl) (by kernel_rfl) (by kernel_rfl)) ?_
  intro W base args ds gs before hval0 hW hcnd _
  have hval : ∀ (j : Nat) t v, Try.f3.params[j]? = some t → args[j]? = some v → Value.okWide Try.prog W .any base t v := hval0
  have hW' := hW
  obtain ⟨p, q, hA0, hV, rfl, hfz, hnd⟩ := hW
  have hA : DataW.TrodAll enc Try.prog W 0 (fun _ => true) true Try.f3.params.toList args.toList ds p := hA0
  rw [Try.params3] at hA hval
  obtain ⟨v0, vs0, d0, ds0, p0, q0, hargs, rfl, rfl, h0, r0⟩ := trodAll_cons hA
  obtain ⟨v1, vs1, d1, ds1, p1, q1, rfl, rfl, rfl, h1, r1⟩ := trodAll_cons r0
  obtain ⟨rfl, rfl, rfl⟩ := trodAll_nil r1
  obtain rfl : args = #[v0, v1] := by cases args; simp_all
  obtain ⟨rfl, rfl⟩ := trodVars_none hV
  obtain ⟨a0, rfl, rfl, rfl⟩ := open_bool Try.underlying4 (hval 0 4 v0 rfl rfl) h0
  obtain ⟨a1, rfl, rfl, rfl, w1⟩ := open_int Try.underlying3 (hval 1 3 v1 rfl rfl) h1
  clear hA0 hval0
  simp only [List.append_nil] at hW'
  refine (walk a0 a1 w1 W).mono fun e W' ⟨he, hg⟩ => ?_
  subst he
  exact ⟨_, rfl, post_of_same (pa := []) (pv := []) hW' (fun _ _ _ => (trodAll_cons_mk (shut_bool Try.underlying4 _) trodAll_mk0)) (fun sp _ => (trodAll_cons_mk (shut_bool Try.underlying4 _) (trodAll_cons_mk (shut_int Try.underlying3 w1) trodAll_mk0))) (fun _ _ => rfl) rfl
    (hg.frame _) hg.2.1 (ok_one (by kernel_rfl) rfl (okWide_bool_mk Try.underlying4 _))⟩

theorem over : Rows.fnLeftCallEndRunsThenAfterFirstRow.holds Try.pinned (OpenSpec.ofChange Rows.fnLeftCallEndRunsThenAfterFirstSpec) :=
  OpenClaim.holds_of_wide 3 Try.f3 rfl rfl rfl rfl rfl rfl rfl ⟨rfl, rfl, rfl, rfl, rfl⟩ rfl rfl rfl rfl rfl (by kernel_rfl) Try.func3 (by kernel_rfl)
    (of_decide_eq_true (by kernel_rfl)) (by unfold Func.isWrapper; first | (rw [if_pos (by decide +kernel)]; kernel_rfl) | (rw [if_neg (by decide +kernel)]; exact ⟨rfl, rfl⟩))
    (fun os started H enc _ => lifted os started H enc)

/-- ████ THE STATEMENT ████ -/
theorem proved : Rows.FnLeftCallEndRunsThenAfterFirstSaid :=
  over
#print axioms proved
end Go.Proofs.Qxb6612886a.fnLeftCallEndRunsThenAfterFirst
