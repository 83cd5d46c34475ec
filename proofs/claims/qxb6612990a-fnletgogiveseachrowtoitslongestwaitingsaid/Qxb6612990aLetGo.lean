/-
  '(*rowWaits).letGo' and 'ZZletGo'.
-/
import Derived.Test.Qxb6612990aGive
namespace Go.Proofs.Qxb6612990a
open Go.RowKit Go.MuLone

/-- The value is a slice of the strings ss. -/
def StrsAt (w : World) (v : Value) (ss : List ByteArray) : Prop :=
  ∃ a c, v = .slice a ss.length c ∧ ss.length ≤ 4096 ∧ ∀ i (h : i < ss.length), ∃ b o, a = some ⟨b, o, none⟩ ∧ w.cell? ⟨b, o + i, none⟩ = some (.string ss[i])

/-- At an index within: the address that the index leads to, in whatever world, and what lies there. -/
theorem str_at {w : World} {a : Option Addr} {c n : Nat} {ss : List ByteArray} (hn : ss.length = n) (h : ∀ i (h : i < ss.length), ∃ b o, a = some ⟨b, o, none⟩ ∧ w.cell? ⟨b, o + i, none⟩ = some (.string ss[i]))
    (i : Nat) (hi : i < n) :
    ∃ ad, (∀ w', (Instr.indexAt 22 (.slice a n c) (.int .i64 i)).run Try.prog w' = .ok (.pointer (some ad)) w') ∧ w.cell? ad = some (.string (ss.getD i ByteArray.empty)) := by
  subst hn
  obtain ⟨b, o, rfl, hc⟩ := h i hi
  refine ⟨⟨b, o + i, none⟩, fun w' => ?_, by simp [hc, hi]⟩
  have h1 : (i : Int) < (ss.length : Int) := by omega
  simp [go_sem, h1]

section
variable {w : World} {bs bm n : Nat} {ws : Nat → ByteArray} {tb cb : Nat → Nat} {cl : Nat → Bool} {X : List Ent}

def notInt : Value → Bool
  | .int .. => false
  | _ => true

theorem cell_lock {x y : Int} {a : Addr} {u : Value} (h0 : w.cell? ⟨bs, 0, none⟩ = some (.int .i32 x)) (hu : notInt u = true) (h : w.cell? a = some u) : (w.setCell ⟨bs, 0, none⟩ (.int .i32 y)).cell? a = some u := by
  rw [World.cell?_setCell_other]
  · exact h
  · intro e
    rw [← e, h0] at h
    cases h
    simp [notInt] at hu

theorem St.lock {x : Int} (S : St w bs bm n ws tb cb cl X) (h0 : w.cell? ⟨bs, 0, none⟩ = some (.int .i32 x)) (y : Int) : St (w.setCell ⟨bs, 0, none⟩ (.int .i32 y)) bs bm n ws tb cb cl X := by
  have hblk : ∀ (k : Nat) (o : Obj), noCells o = true → w.heap[k]? = some o → (w.setCell ⟨bs, 0, none⟩ (.int .i32 y)).heap[k]? = some o := fun k o ho hk => by
    have : k ≠ bs := fun e => by subst e; exact ne_of_cell hk ho h0 rfl
    rw [Below.heap_setCell _ _ _ _ this, hk]
  obtain ⟨clock, hb⟩ := S.map
  refine ⟨cell_lock h0 rfl S.fld, ⟨clock, hblk _ _ rfl hb⟩, S.nod, fun x hx => ⟨(S.row x hx).1, ?_⟩, S.own, fun j hj => ⟨cell_lock h0 rfl (S.chn j hj).1, hblk _ _ rfl (S.chn j hj).2⟩, S.inj⟩
  obtain ⟨g, o, cap, h1, h2, h3, h4⟩ := (S.row x hx).2
  exact ⟨g, o, cap, h1, h2, h3, fun i hi => cell_lock h0 rfl (h4 i hi)⟩

set_option maxRecDepth 10000 in
set_option maxHeartbeats 800000 in
theorem letGo_any {B : Nat} {v : Value} {rs : List ByteArray} (S : St w bs bm n ws tb cb cl X) (hB : B ≤ bs ∧ B ≤ bm ∧ ∀ j, j < n → B ≤ cb j)
    (h0 : w.cell? ⟨bs, 0, none⟩ = some (.int .i32 0)) (f0 : w.frozen? ⟨bs, 0, none⟩ = false) (hv : StrsAt w v rs) :
    Calls Try.prog 25 #[.pointer (some ⟨bs, 0, none⟩), v] w fun e w' => e = .returned (.tuple #[]) ∧
      ∃ X' cl', St w' bs bm n ws tb cb cl' X' ∧ Done rs (fun k => Qf k X) (fun k => Qf k X') cl cl' ∧ (∀ a u, notInt u = true → w.cell? a = some u → w'.cell? a = some u) ∧ Below B w w' := by
  obtain ⟨a, c, rfl, hlen, hs⟩ := hv
  obtain ⟨m, hm⟩ : ∃ m, rs.length = m := ⟨_, rfl⟩
  rw [hm] at hlen ⊢
  have S1 := S.lock h0 1
  have h1 := World.cell?_setCell_same w ⟨bs, 0, none⟩ (.int .i32 1) h0
  have f1 : (w.setCell ⟨bs, 0, none⟩ (.int .i32 1)).frozen? ⟨bs, 0, none⟩ = false := by simp [f0]
  have hk1 : ∀ a u, notInt u = true → w.cell? a = some u → (w.setCell ⟨bs, 0, none⟩ (.int .i32 1)).cell? a = some u := fun a u hu h => cell_lock h0 hu h
  have hb1 : Below B w (w.setCell ⟨bs, 0, none⟩ (.int .i32 1)) := (Below.refl _ _).setCell hB.1 _
  go_enter_defers Try.func25, Try.ntmps25
  go_wp2_with (go_at_call 28; refine (lock_free muLib ⟨bs, 0, none⟩ _ h0 f0).mono ?_; rintro e w' ⟨rfl, rfl⟩)
  go_loopw [15] (fun i wr => ∃ k X' cl', k ≤ m ∧ i = .int .i64 (k : Nat) ∧ St wr bs bm n ws tb cb cl' X' ∧ Done (rs.take k) (fun k => Qf k X) (fun k => Qf k X') cl cl' ∧ Kept B (w.setCell ⟨bs, 0, none⟩ (.int .i32 1)) wr) (fun i _ => m - (intOf i).toNat)
  case atStart => exact ⟨0, X, cl, Nat.zero_le _, rfl, S1, done_nil _ _, Kept.refl _ _⟩
  case round =>
    obtain ⟨k, X', cl', hk, rfl, S', hd, hkept⟩ := hrel
    by_cases hlt : k < m
    · obtain ⟨ad, hix, hcell⟩ := str_at (c := c) hm hs k hlt
      have hc1 := (hkept.cell _ _ (hk1 _ _ rfl hcell)).1
      have hlt' : (k : Int) < (m : Int) := by omega
      have hkl : k < rs.length := by omega
      have e : rs.getD k ByteArray.empty = rs[k] := by simp [hkl]
      rw [e] at hc1
      have HD : Hid (rs.take (k + 1) = rs.take k ++ [rs[k]]) := List.take_succ_eq_append_getElem hkl
      clear hk1 hcell e hs S1 h1 f1 hb1
      generalize rs[k] = row at *
      go_wp2_with fail
      refine (giveNext_any S' hB.2 row).mono ?_
      rintro e w1 ⟨rfl, X'', cl'', S'', hst, hkp⟩
      have hd' : Hid (Done (rs.take (k + 1)) (fun k => Qf k X) (fun k => Qf k X'') cl cl'') := by
        have := done_snoc hd hst
        rw [← HD.out] at this
        exact this
      have hkept' := hkept.trans hkp
      clear hd hst hkept hkp S' hix hc1
      go_wp2
      go_roundw
      case rel => exact ⟨k + 1, X'', cl'', by omega, by go_num, S'', hd'.out, hkept'⟩
      case measure => simp [intOf]; omega
    · have hkm : k = m := by omega
      have hge : ¬ (k : Int) < (m : Int) := by omega
      have hdd : Hid (Done rs (fun k => Qf k X) (fun k => Qf k X') cl cl') := by
        rw [hkm, ← hm, List.take_length] at hd
        exact hd
      have h1' := (hkept.cell _ _ h1).1
      have f1' := ((hkept.cell _ _ h1).2).trans f1
      have hK : Hid (∀ a u, notInt u = true → w.cell? a = some u → (wr.setCell ⟨bs, 0, none⟩ (.int .i32 0)).cell? a = some u) := fun a u hu h => cell_lock h1' hu (hkept.cell _ _ (hk1 a u hu h)).1
      have hBl := (hb1.trans hkept.below).setCell (p := ⟨bs, 0, none⟩) hB.1 (.int .i32 0)
      have hS := S'.lock h1' 0
      clear hkm hd hkept S1 S S' hs hk1 hb1 h1 f1 h0 f0
      go_wp2
      refine leaves_cons (f := 29) (args := #[.pointer (some ⟨bs, 0, none⟩)]) (by simp) (by simp [go_sem]) ?_
      refine (unlock_deferred muLib ⟨bs, 0, none⟩ .returning _ h1' f1').mono ?_
      rintro e u' w'' ⟨rfl, rfl, rfl⟩
      exact ⟨_, results_none rfl _ _ _, rfl, X', cl', hS, hdd.out, hK.out, hBl⟩

theorem ZZletGo_any {B : Nat} {v : Value} {rs : List ByteArray} (S : St w bs bm n ws tb cb cl X) (hB : B ≤ bs ∧ B ≤ bm ∧ ∀ j, j < n → B ≤ cb j)
    (h0 : w.cell? ⟨bs, 0, none⟩ = some (.int .i32 0)) (f0 : w.frozen? ⟨bs, 0, none⟩ = false) (hv : StrsAt w v rs) :
    Calls Try.prog 12 #[.pointer (some ⟨bs, 0, none⟩), v] w fun e w' => e = .returned (.tuple #[]) ∧
      ∃ X' cl', St w' bs bm n ws tb cb cl' X' ∧ Done rs (fun k => Qf k X) (fun k => Qf k X') cl cl' ∧ (∀ a u, notInt u = true → w.cell? a = some u → w'.cell? a = some u) ∧ Below B w w' := by
  go_enter Try.func12, Try.ntmps12
  go_wp2_with fail
  refine (letGo_any S hB h0 f0 hv).mono ?_
  rintro e w1 ⟨rfl, X', cl', h1, h2, h3, h4⟩
  go_wp2
  go_end0
  exact ⟨rfl, X', cl', h1, h2, h3, h4⟩
end
end Go.Proofs.Qxb6612990a
