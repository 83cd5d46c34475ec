/-
  setQueue, giveNext, letGo: the queues turned.
-/
import Derived.Test.Qxb6612990aState
import Derived.Test.Qxb6612990aLocks
import Derived.Test.Qxb6612990aPlain
import Derived.Conc.MuLone
import Derived.Conc.EventLaws
namespace Go.Proofs.Qxb6612990a
open Go.RowKit

def noCells : Obj → Bool
  | .cells .. => false
  | _ => true

section
variable {w : World} {b : Nat} {o o0 : Obj} {a : Addr} {v : Value}

theorem ne_of_cell (hb : w.heap[b]? = some o0) (hn : noCells o0 = true) (h : w.cell? a = some v) : a.block ≠ b := by
  intro e
  subst e
  cases o0 <;> simp_all [World.cell?, noCells]
theorem cell_setB (hb : w.heap[b]? = some o0) (hn : noCells o0 = true) (h : w.cell? a = some v) : (setB w b o).cell? a = some v := by
  rw [World.cell?_of_block (w := w) (heap_setB_other (ne_of_cell hb hn h))]
  exact h
theorem frozen_setB (hb : w.heap[b]? = some o0) (hn : noCells o0 = true) (h : w.cell? a = some v) : (setB w b o).frozen? a = w.frozen? a :=
  World.frozen?_of_block (w := w) (heap_setB_other (ne_of_cell hb hn h))
theorem lt_of_heap (hb : w.heap[b]? = some o0) : b < w.heap.size := (Array.getElem?_eq_some_iff.1 hb).1

theorem run_close {P : Program} {c cap s r : Nat} {buf : Array Value} {tm : Bool} (hc : w.heap[c]? = some (.chan cap buf false s r tm)) (ats : Array TypeId) (ty : TypeId) :
    (Builtin.close_ ats ty #[.chan (some c)]).run P w = .ok (.tuple #[]) (setB w c (.chan cap buf true s r tm)) := by
  rw [run_close_open ats ty hc]; rfl
end

section
variable {w : World} {bs bm n : Nat} {ws : Nat → ByteArray} {tb cb : Nat → Nat} {cl : Nat → Bool} {X : List Ent} {clock : Nat}

set_option maxHeartbeats 400000 in
theorem setQueue_nil (hf : w.cell? ⟨bs, 2, none⟩ = some (.map (some bm))) (hb : w.heap[bm]? = some (.map (toEs X) clock)) (k : ByteArray) (a : Option Addr) (c : Nat) :
    Calls Try.prog 35 #[.pointer (some ⟨bs, 0, none⟩), .string k, .slice a 0 c] w fun e w' => e = .returned (.tuple #[]) ∧ w' = setB w bm (.map (toEs (delE k X)) clock) := by
  have hrun := fun kt ty => run_delete_ents (P := Try.prog) (t := 59) (kt' := kt) (ty := ty) Try.underlying59 Try.underlying9 hb k
  go_enter Try.func35, Try.ntmps35
  go_wp2
  first | go_end0 | refine bodyPost_ret (results_none rfl _ _ _) rfl ?_
  exact ⟨rfl, rfl⟩

set_option maxHeartbeats 400000 in
theorem setQueue_some (hf : w.cell? ⟨bs, 2, none⟩ = some (.map (some bm))) (hb : w.heap[bm]? = some (.map (toEs X) clock)) (k : ByteArray) (a : Option Addr) (m c : Nat) (hm : 0 < m) (q : List Nat) :
    Calls Try.prog 35 #[.pointer (some ⟨bs, 0, none⟩), .string k, .slice a m c] w fun e w' => e = .returned (.tuple #[]) ∧ ∃ d, w' = setB w bm (.map (toEs (putE k (.slice a m c) q clock X)) d) := by
  have hrun := run_mapUpdate_ents (P := Try.prog) (t := 59) Try.underlying59 Try.underlying9 hb k (.slice a m c) q
  have h0 : ((m : Int) == 0) = false := by simp; omega
  go_enter Try.func35, Try.ntmps35
  go_wp2
  first | go_end0 | refine bodyPost_ret (results_none rfl _ _ _) rfl ?_
  exact ⟨rfl, _, rfl⟩

theorem rowAt_kept {w w' : World} {v : Value} {q : List Nat} (h : RowAt w tb v q) (hk : ∀ a u, w.cell? a = some u → w'.cell? a = some u) : RowAt w' tb v q := by
  obtain ⟨g, o, cap, h1, h2, h3, h4⟩ := h
  exact ⟨g, o, cap, h1, h2, h3, fun i hi => hk _ _ (h4 i hi)⟩

/-- The worlds behind the close and behind the map's turn. -/
theorem St.turned {X' : List Ent} {c' j : Nat} {k : ByteArray} {rest : List Nat} (S : St w bs bm n ws tb cb cl X) (hq : Qf k X = j :: rest) 
    (hn : (keys X').Nodup) (hX : ∀ y ∈ X', (y ∈ X ∧ y.key ≠ k) ∨ (y.key = k ∧ RowAt w tb y.val y.q ∧ y.q = rest ∧ rest ≠ [])) :
    St (setB (setB w (cb j) (.chan 0 #[] true 0 0 false)) bm (.map (toEs X') c')) bs bm n ws tb cb (upd cl j) X' := by
  obtain ⟨clock, hb⟩ := S.map
  obtain ⟨x, hx, hk, _, h2, _⟩ | ⟨_, _, h2, _⟩ := at_key k .nilFunc X
  case inr => rw [h2] at hq; cases hq
  rw [h2] at hq
  obtain ⟨o1, o2⟩ := S.own x hx
  rw [hq] at o1 o2
  obtain ⟨hj, hwj, hcj⟩ := o2 j (.head _)
  obtain ⟨ch1, ch2⟩ := S.chn j hj
  have hne : bm ≠ cb j := fun e => by rw [← e, hb] at ch2; cases ch2
  have hb1 : (setB w (cb j) (.chan 0 #[] true 0 0 false)).heap[bm]? = some (.map (toEs X) clock) := (heap_setB_other hne).trans hb
  have hk' : ∀ a u, w.cell? a = some u → (setB (setB w (cb j) (.chan 0 #[] true 0 0 false)) bm (.map (toEs X') c')).cell? a = some u := fun a u h =>
    cell_setB hb1 rfl (cell_setB ch2 rfl h)
  refine ⟨hk' _ _ S.fld, ⟨c', heap_setB_same (lt_of_heap hb1)⟩, hn, ?_, ?_, ?_, S.inj⟩
  · intro y hy
    rcases hX y hy with ⟨h1, _⟩ | ⟨_, h1, h3, h4⟩
    · exact ⟨(S.row y h1).1, rowAt_kept (S.row y h1).2 hk'⟩
    · exact ⟨by rw [h3]; exact h4, rowAt_kept h1 hk'⟩
  · intro y hy
    rcases hX y hy with ⟨h1, h3⟩ | ⟨h1, _, h3, _⟩
    · obtain ⟨p1, p2⟩ := S.own y h1
      refine ⟨p1, fun i hi => ?_⟩
      obtain ⟨q1, q2, q3⟩ := p2 i hi
      refine ⟨q1, q2, ?_⟩
      have : i ≠ j := fun e => by subst e; exact h3 (by rw [← q2, hwj, hk])
      simp [upd, this, q3]
    · rw [h3]
      rw [List.nodup_cons] at o1
      refine ⟨o1.2, fun i hi => ?_⟩
      obtain ⟨q1, q2, q3⟩ := o2 i (.tail _ hi)
      have : i ≠ j := fun e => by subst e; exact o1.1 hi
      exact ⟨q1, by rw [q2, hk, h1], by simp [upd, this, q3]⟩
  · intro i hi
    obtain ⟨d1, d2⟩ := S.chn i hi
    refine ⟨hk' _ _ d1, ?_⟩
    have hnm : cb i ≠ bm := fun e => by rw [e, hb] at d2; cases d2
    rw [heap_setB_other hnm]
    by_cases e : i = j
    · subst e
      rw [heap_setB_same (lt_of_heap d2)]
      simp [upd]
    · rw [heap_setB_other (fun h => e (S.inj i j hi hj h)), d2]
      simp [upd, e]

/-- What stays: every cell, and all that lies below B. -/
structure Kept (B : Nat) (w w' : World) : Prop where
  cell : ∀ a u, w.cell? a = some u → w'.cell? a = some u ∧ w'.frozen? a = w.frozen? a
  below : Below B w w'
theorem Kept.refl (B : Nat) (w : World) : Kept B w w := ⟨fun _ _ h => ⟨h, rfl⟩, Below.refl _ _⟩
theorem Kept.trans {B : Nat} {a b c : World} (h : Kept B a b) (k : Kept B b c) : Kept B a c :=
  ⟨fun x u hx => ⟨(k.cell x u (h.cell x u hx).1).1, ((k.cell x u (h.cell x u hx).1).2).trans (h.cell x u hx).2⟩, h.below.trans k.below⟩
theorem below_setB {B b : Nat} {w : World} {o : Obj} (h : B ≤ b) : Below B w (setB w b o) :=
  ⟨rfl, rfl, rfl, by simp [setB], fun k hk => heap_setB_other (by omega)⟩
theorem kept_setB {B b : Nat} {w : World} {o o0 : Obj} (hb : w.heap[b]? = some o0) (hn : noCells o0 = true) (h : B ≤ b) : Kept B w (setB w b o) :=
  ⟨fun _ _ hc => ⟨cell_setB hb hn hc, frozen_setB hb hn hc⟩, below_setB h⟩

set_option maxHeartbeats 400000 in
theorem giveNext_none (S : St w bs bm n ws tb cb cl X) (k : ByteArray) (hq : Qf k X = []) :
    Calls Try.prog 30 #[.pointer (some ⟨bs, 0, none⟩), .string k] w fun e w' => e = .returned (.tuple #[]) ∧ w' = w := by
  obtain ⟨v, hrun, hv⟩ := S.look k false
  rcases hv with ⟨_, rfl⟩ | ⟨_, h⟩
  case inr => exact absurd hq h
  have hf := S.fld
  clear hq
  simp only [Bool.false_eq_true, if_false] at hrun
  go_enter Try.func30, Try.ntmps30
  go_wp2
  first | go_end0 | refine bodyPost_ret (results_none rfl _ _ _) rfl ?_
  exact ⟨rfl, rfl⟩

set_option maxRecDepth 10000 in
set_option maxHeartbeats 400000 in
theorem giveNext_last (S : St w bs bm n ws tb cb cl X) (k : ByteArray) (j : Nat) (hq : Qf k X = [j]) (hb : w.heap[bm]? = some (.map (toEs X) clock)) :
    Calls Try.prog 30 #[.pointer (some ⟨bs, 0, none⟩), .string k] w fun e w' => e = .returned (.tuple #[]) ∧
      w' = setB (setB w (cb j) (.chan 0 #[] true 0 0 false)) bm (.map (toEs (delE k X)) clock) := by
  obtain ⟨v, hrun, hv⟩ := S.look k false
  obtain ⟨x, hx, hk, _, h2, _⟩ | ⟨_, _, h2, _⟩ := at_key k .nilFunc X
  case inr => rw [h2] at hq; cases hq
  rw [h2] at hq
  obtain ⟨_, o2⟩ := S.own x hx
  rw [hq] at o2
  obtain ⟨hj, hwj, hcj⟩ := o2 j (.head _)
  obtain ⟨ch1, ch2⟩ := S.chn j hj
  rw [h2, hq] at hv
  rcases hv with ⟨h, _⟩ | ⟨⟨g, o, cap, rfl, hc1, hc2, hc⟩, _⟩
  · cases h
  have hf := S.fld
  have hci := hc 0 (by simp)
  have hne : bm ≠ cb j := fun e => by rw [← e, hb] at ch2; cases ch2
  rw [hcj] at ch2
  have hb1 : (setB w (cb j) (.chan 0 #[] true 0 0 false)).heap[bm]? = some (.map (toEs X) clock) := (heap_setB_other hne).trans hb
  have hf1 := cell_setB (o := .chan 0 #[] true 0 0 false) ch2 rfl hf
  have hcl := fun ats ty => run_close (P := Try.prog) ch2 ats ty
  have hset := fun a c => setQueue_nil hf1 hb1 k a c
  have hm := maxLen_le
  simp only [Bool.false_eq_true, if_false, List.length_singleton, List.getElem_cons_zero, Nat.add_zero] at hrun hci
  simp only [List.length_singleton] at hc1
  have HS : Hid (∀ a c, Calls Try.prog 35 #[.pointer (some ⟨bs, 0, none⟩), .string k, .slice a 0 c] (setB w (cb j) (.chan 0 #[] true 0 0 false)) fun e w' => e = .returned (.tuple #[]) ∧ w' = setB (setB w (cb j) (.chan 0 #[] true 0 0 false)) bm (.map (toEs (delE k X)) clock)) := hset
  clear hb hb1 hf1 hq h2 hx o2 hcj hwj hk S hc hset hne
  generalize tb j = tj at *
  generalize cb j = cj at *
  by_cases h1 : cap = 1
  all_goals
    go_enter Try.func30, Try.ntmps30
    go_wp2_with fail
    refine (HS.out _ _).mono ?_
    rintro e w' ⟨rfl, rfl⟩
    go_wp2
    go_end0
    exact ⟨rfl, rfl⟩

set_option maxRecDepth 10000 in
set_option maxHeartbeats 400000 in
theorem giveNext_more (S : St w bs bm n ws tb cb cl X) (k : ByteArray) (j j' : Nat) (rest : List Nat) (hq : Qf k X = j :: j' :: rest) (hb : w.heap[bm]? = some (.map (toEs X) clock)) :
    Calls Try.prog 30 #[.pointer (some ⟨bs, 0, none⟩), .string k] w fun e w' => e = .returned (.tuple #[]) ∧
      ∃ v d, RowAt w tb v (j' :: rest) ∧ w' = setB (setB w (cb j) (.chan 0 #[] true 0 0 false)) bm (.map (toEs (putE k v (j' :: rest) clock X)) d) := by
  obtain ⟨v, hrun, hv⟩ := S.look k false
  obtain ⟨x, hx, hk, _, h2, _⟩ | ⟨_, _, h2, _⟩ := at_key k .nilFunc X
  case inr => rw [h2] at hq; cases hq
  rw [h2] at hq
  obtain ⟨_, o2⟩ := S.own x hx
  rw [hq] at o2
  obtain ⟨hj, hwj, hcj⟩ := o2 j (.head _)
  obtain ⟨ch1, ch2⟩ := S.chn j hj
  rw [h2, hq] at hv
  rcases hv with ⟨h, _⟩ | ⟨⟨g, o, cap, rfl, hc1, hc2, hc⟩, _⟩
  · cases h
  have hf := S.fld
  have hci := hc 0 (by simp)
  have hne : bm ≠ cb j := fun e => by rw [← e, hb] at ch2; cases ch2
  rw [hcj] at ch2
  have hb1 : (setB w (cb j) (.chan 0 #[] true 0 0 false)).heap[bm]? = some (.map (toEs X) clock) := (heap_setB_other hne).trans hb
  have hf1 := cell_setB (o := .chan 0 #[] true 0 0 false) ch2 rfl hf
  have hcl := fun ats ty => run_close (P := Try.prog) ch2 ats ty
  simp only [List.length_cons] at hc1 hrun
  have hrow : RowAt w tb (.slice (some ⟨g, o + 1, none⟩) (rest.length + 1) (cap - 1)) (j' :: rest) := by
    refine ⟨g, o + 1, cap - 1, rfl, by simp; omega, by omega, fun i hi => ?_⟩
    have := hc (i + 1) (by simpa using hi)
    rw [show o + 1 + i = o + (i + 1) by omega]
    simpa using this
  have HS : Hid (Calls Try.prog 35 #[.pointer (some ⟨bs, 0, none⟩), .string k, .slice (some ⟨g, o + 1, none⟩) (rest.length + 1) (cap - 1)] (setB w (cb j) (.chan 0 #[] true 0 0 false)) fun e w' => e = .returned (.tuple #[]) ∧ ∃ d, w' = setB (setB w (cb j) (.chan 0 #[] true 0 0 false)) bm (.map (toEs (putE k (.slice (some ⟨g, o + 1, none⟩) (rest.length + 1) (cap - 1)) (j' :: rest) clock X)) d)) :=
    setQueue_some hf1 hb1 k (some ⟨g, o + 1, none⟩) (rest.length + 1) (cap - 1) (by omega) (j' :: rest)
  have HR := Hid.out hrow
  have hm := maxLen_le
  simp only [Bool.false_eq_true, if_false, List.getElem_cons_zero, Nat.add_zero] at hrun hci
  have h1 : ¬ cap = 1 := by omega
  have hR : Hid (RowAt w tb (.slice (some ⟨g, o + 1, none⟩) (rest.length + 1) (cap - 1)) (j' :: rest)) := hrow
  clear hb hb1 hf1 hq h2 hx o2 hcj hwj hk S hc hne hrow HR
  generalize tb j = tj at *
  generalize cb j = cj at *
  generalize hL : rest.length = L at hrun hc1 HS hR
  clear hL
  go_enter Try.func30, Try.ntmps30
  go_wp2_with fail
  refine HS.out.mono ?_
  rintro e w' ⟨rfl, d, rfl⟩
  go_wp2
  go_end0
  exact ⟨rfl, _, d, hR.out, rfl⟩

/-- 'giveNext': the longest waiting of the row's queue is given the row. -/
theorem giveNext_any {B : Nat} (S : St w bs bm n ws tb cb cl X) (hB : B ≤ bm ∧ ∀ j, j < n → B ≤ cb j) (k : ByteArray) :
    Calls Try.prog 30 #[.pointer (some ⟨bs, 0, none⟩), .string k] w fun e w' => e = .returned (.tuple #[]) ∧
      ∃ X' cl', St w' bs bm n ws tb cb cl' X' ∧ stepQ k (fun k => Qf k X) (fun k => Qf k X') cl cl' ∧ Kept B w w' := by
  obtain ⟨clock, hb⟩ := S.map
  have keep : ∀ {j : Nat} {rest : List Nat} {o : Obj}, Qf k X = j :: rest → Kept B w (setB (setB w (cb j) (.chan 0 #[] true 0 0 false)) bm o) := by
    intro j rest o hq
    obtain ⟨x, hx, hk, _, h2, _⟩ | ⟨_, _, h2, _⟩ := at_key k .nilFunc X
    case inr => rw [h2] at hq; cases hq
    rw [h2] at hq
    obtain ⟨_, o2⟩ := S.own x hx
    rw [hq] at o2
    obtain ⟨hj, _, _⟩ := o2 j (.head _)
    obtain ⟨_, ch2⟩ := S.chn j hj
    have hne : bm ≠ cb j := fun e => by rw [← e, hb] at ch2; cases ch2
    have hb1 : (setB w (cb j) (.chan 0 #[] true 0 0 false)).heap[bm]? = some (.map (toEs X) clock) := (heap_setB_other hne).trans hb
    exact (kept_setB ch2 rfl (hB.2 j hj)).trans (kept_setB hb1 rfl hB.1)
  cases hq : Qf k X with
  | nil =>
    refine (giveNext_none S k hq).mono ?_
    rintro e w' ⟨rfl, rfl⟩
    exact ⟨rfl, X, cl, S, ⟨fun _ _ => rfl, Or.inl ⟨hq, hq, rfl⟩⟩, Kept.refl _ _⟩
  | cons j rest =>
    cases rest with
    | nil =>
      refine (giveNext_last S k j hq hb).mono ?_
      rintro e w' ⟨rfl, rfl⟩
      refine ⟨rfl, delE k X, upd cl j, S.turned hq (nodup_del S.nod) (fun y hy => Or.inl (mem_del S.nod hy)), ⟨fun k' hk' => Qf_del_other hk' X, Or.inr ⟨j, [], hq, Qf_del_same k X S.nod, rfl⟩⟩, keep hq⟩
    | cons j' rest =>
      refine (giveNext_more S k j j' rest hq hb).mono ?_
      rintro e w' ⟨rfl, v, d, hr, rfl⟩
      refine ⟨rfl, putE k v (j' :: rest) clock X, upd cl j, S.turned hq (nodup_put S.nod) (fun y hy => ?_), ⟨fun k' hk' => Qf_put_other hk' _ _ _ X, Or.inr ⟨j, _, hq, Qf_put_same k _ _ _ X, rfl⟩⟩, keep hq⟩
      rcases mem_put S.nod hy with h | ⟨h1, h2, h3⟩
      · exact Or.inl h
      · exact Or.inr ⟨h1, by rw [h2, h3]; exact hr, h3, by simp⟩
end
end Go.Proofs.Qxb6612990a
