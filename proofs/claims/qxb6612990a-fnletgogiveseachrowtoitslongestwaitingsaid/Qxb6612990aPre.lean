/-
  The law's own function: what its walk wants.
-/
import Derived.Test.Qxb6612990aNew
import Derived.Test.Qxb6612990aBytes
import Derived.Test.Qxb6612990aCheck
import Derived.Test.Qxb6612990aTurn
import Derived.Laws.CopyRow
import Derived.Deep.DeepCutAuto
import Derived.Deep.QuietTactic
import Derived.BigQuiet
namespace Go.Proofs.Qxb6612990a
open Go.RowKit

theorem Bd.toSt {w : World} {B bs bm bt n : Nat} {ws : Nat → ByteArray} {tb cb : Nat → Nat} {X : List Ent} {clock : Nat} (D : Bd w B bs bm bt n n n ws tb cb X clock) : St w bs bm n ws tb cb (fun _ => false) X := by
  refine ⟨by simp [World.cell?, D.blk], ⟨clock, D.map⟩, D.nod, fun x hx => ⟨(D.row x hx).1, ?_⟩, fun x hx => ?_, fun j hj => ⟨by simp [World.cell?, (D.chn j hj).1], (D.chn j hj).2.1⟩, D.inj⟩
  · obtain ⟨r1, r2⟩ := D.row x hx
    rcases r2.2 with ⟨_, h0⟩ | ⟨g, cap, cur, hv, hg, hc, h1, h2, h3, h4⟩
    · exact absurd (List.length_eq_zero_iff.1 h0) r1
    · refine ⟨g, 0, cap, hv, h1, h2, fun i hi => ?_⟩
      rw [hv] at r2
      rw [Nat.zero_add, r2.cellAt i (by omega)]
      simp [hi, ptr]
  · have hq := Qf_mem D.nod hx
    rw [D.que] at hq
    rw [← hq]
    exact ⟨idxs_nodup _ _ _, fun j hj => ⟨(mem_idxs.1 hj).1, (mem_idxs.1 hj).2, rfl⟩⟩

theorem St.keys_iff {w : World} {bs bm n : Nat} {ws : Nat → ByteArray} {tb cb : Nat → Nat} {cl : Nat → Bool} {X : List Ent} (S : St w bs bm n ws tb cb cl X) (r : ByteArray) : r ∈ keys X ↔ Qf r X ≠ [] := by
  constructor
  · intro h
    obtain ⟨x, hx, rfl⟩ := List.mem_map.1 h
    rw [Qf_mem S.nod hx]
    exact (S.row x hx).1
  · intro h
    rcases at_key r .nilFunc X with ⟨x, hx, hk, _⟩ | ⟨_, _, h0, _⟩
    · rw [← hk]; exact mem_keys hx
    · exact absurd h0 h

theorem info9 : (Try.prog.info? 9).map (fun i => (i.zero, i.size, i.bytes)) = some (some (.string ByteArray.empty), 1, 16) := by kernel_rfl
theorem size9 : (Try.prog.info? 9).map (·.size) = some 1 := by kernel_rfl

theorem setRow_alloc (w : World) (c d : Array Value) (t : TypeId) : (w.alloc (.cells c t)).setRow w.heap.size d = w.alloc (.cells d t) := by
  unfold World.setRow World.alloc
  congr 1
  apply Array.ext
  · simp
  · intro i h1 h2
    simp only [Array.getElem_modify, Array.getElem_push]
    simp only [Array.size_push] at h2
    by_cases e : w.heap.size = i
    · subst e; simp
    · rw [if_neg e, dif_pos (by omega), dif_pos (by omega)]

theorem copy_strs {w : World} {a : Option Addr} {c n : Nat} {ss : List ByteArray} (hn : ss.length = n) (hs : ∀ i (h : i < ss.length), ∃ b o, a = some ⟨b, o, none⟩ ∧ w.cell? ⟨b, o + i, none⟩ = some (.string ss[i])) (ha : a.isSome = true) (ty : TypeId) :
    (Builtin.copy_ #[22, 22] ty #[.slice (some ⟨w.heap.size, 0, none⟩) n n, .slice a n c]).run Try.prog (w.alloc (.cells (madeCells #[.string ByteArray.empty] n) 9)) = .ok (.int .i64 n) (w.alloc (.cells (ss.map Value.string).toArray 9)) := by
  obtain ⟨ad, rfl⟩ := Option.isSome_iff_exists.1 ha
  have hsrc : ∀ j v, (ss.map Value.string)[j]? = some v → (w.alloc (.cells (madeCells #[.string ByteArray.empty] n) 9)).cell? (ad.add j) = some v := by
    intro j v hj
    simp only [List.getElem?_map, Option.map_eq_some_iff] at hj
    obtain ⟨s, hs1, rfl⟩ := hj
    obtain ⟨hjl, e⟩ := List.getElem?_eq_some_iff.1 hs1
    obtain ⟨b, o, hb, hc⟩ := hs j hjl
    cases hb
    have hadd : (⟨b, o, none⟩ : Addr).add j = ⟨b, o + j, none⟩ := by unfold Addr.add; split <;> simp_all
    rw [hadd]
    refine cell_old (Below.heap_alloc _ _ _ (cell_lt hc)) ?_
    rw [hc, e]
  have h := run_copy_row Try.prog (w.alloc (.cells (madeCells #[.string ByteArray.empty] n) 9)) 22 22 ty 9 w.heap.size 0 n n ad n c (madeCells #[.string ByteArray.empty] n) 9 (ss.map Value.string) Try.underlying22 size9
    (heap_alloc_new w _) (by simp [hn]) hsrc (by simp [size_madeCells, hn]) (by simp [Value.oneCell'])
  rw [h, setRow_alloc]
  have e : (madeCells #[.string ByteArray.empty] n).toList.drop (0 + (ss.map Value.string).length) = [] := by
    rw [List.drop_eq_nil_iff]; simp [size_madeCells, hn]
  rw [e]
  simp [goInt, hn]

theorem strsAt_new (w : World) (ss : List ByteArray) (h : ss.length ≤ 4096) : StrsAt (w.alloc (.cells (ss.map Value.string).toArray 9)) (.slice (some ⟨w.heap.size, 0, none⟩) ss.length ss.length) ss := by
  refine ⟨_, _, rfl, h, fun i hi => ⟨w.heap.size, 0, rfl, ?_⟩⟩
  have := heap_alloc_new w (.cells (ss.map Value.string).toArray 9)
  simp only [World.cell?, this]
  simp [hi]

theorem strsIn_kept {w w' : World} {v : Value} {ss : List ByteArray} (h : StrsIn w v ss) (hk : ∀ a u, w.cell? a = some u → w'.cell? a = some u) : StrsIn w' v ss := by
  obtain ⟨a, c, h1, h2, h3⟩ := h
  refine ⟨a, c, h1, h2, fun i hi => ?_⟩
  obtain ⟨b, o, e, hc⟩ := h3 i hi
  exact ⟨b, o, e, hk _ _ hc⟩
theorem strsAt_kept {w w' : World} {v : Value} {ss : List ByteArray} (h : StrsAt w v ss) (hk : ∀ a u, notInt u = true → w.cell? a = some u → w'.cell? a = some u) : StrsAt w' v ss := by
  obtain ⟨a, c, h1, h2, h3⟩ := h
  refine ⟨a, c, h1, h2, fun i hi => ?_⟩
  obtain ⟨b, o, e, hc⟩ := h3 i hi
  exact ⟨b, o, e, hk _ _ rfl hc⟩
theorem below_cells {w w' : World} (h : Below w.heap.size w w') : ∀ a u, w.cell? a = some u → w'.cell? a = some u := fun _ _ hc => cell_old (h.block _ (cell_lt hc)) hc

/-- The rest of a sequence behind its first statements. -/
def tl : Nat → Code → Code
  | 0, c => c
  | n + 1, .seq _ b => tl n b
  | _ + 1, c => c
end Go.Proofs.Qxb6612990a
