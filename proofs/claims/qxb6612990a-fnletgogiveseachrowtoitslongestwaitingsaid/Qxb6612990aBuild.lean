/-
  The queues while 'ZZnewRowWaits' builds them: what the blocks hold, and how each step of a round turns them.
-/
import Derived.Test.Qxb6612990aLetGo
import Derived.Deep.AppendLies
namespace Go.Proofs.Qxb6612990a
open Go.RowKit

def ptr (b : Nat) : Value := .pointer (some ⟨b, 0, none⟩)

/-- k: how many of the updates are in the queues; t: how many have their turn. -/
structure Bd (w : World) (B bs bm bt n k t : Nat) (ws : Nat → ByteArray) (tb cb : Nat → Nat) (X : List Ent) (clock : Nat) : Prop where
  blk : w.heap[bs]? = some (.cells #[.int .i32 0, .int .u32 0, .map (some bm)] 67 (0, 0))
  map : w.heap[bm]? = some (.map (toEs X) clock)
  nod : (keys X).Nodup
  row : ∀ x ∈ X, x.q ≠ [] ∧ w.ownsRow B 38 1 x.val x.q.length (x.q.map fun j => ptr (tb j))
  dis : ∀ x ∈ X, ∀ y ∈ X, x.key ≠ y.key → x.val.ownBlock ≠ y.val.ownBlock
  nbt : ∀ x ∈ X, x.val.ownBlock ≠ some bt
  que : ∀ r, Qf r X = idxs ws r k
  tur : ∃ tc, w.heap[bt]? = some (.cells tc 38 (0, 0)) ∧ tc.size = n ∧ ∀ j, j < t → tc[j]? = some (ptr (tb j))
  chn : ∀ j, j < t → w.heap[tb j]? = some (.cells #[.string (ws j), .chan (some (cb j))] 70 (0, 0)) ∧ w.heap[cb j]? = some (.chan 0 #[] false 0 0 false) ∧ B ≤ cb j
  inj : ∀ i j, i < t → j < t → cb i = cb j → i = j
  low : B ≤ bs ∧ B ≤ bm ∧ B ≤ bt ∧ k ≤ t ∧ t ≤ n

theorem cell_old {w w' : World} {a : Addr} {u : Value} (h : w'.heap[a.block]? = w.heap[a.block]?) (hc : w.cell? a = some u) : w'.cell? a = some u := (World.cell?_of_block h).trans hc
theorem cell_lt {w : World} {a : Addr} {u : Value} (h : w.cell? a = some u) : a.block < w.heap.size := by
  rcases Nat.lt_or_ge a.block w.heap.size with hlt | hge
  · exact hlt
  · simp [World.cell?, Array.getElem?_eq_none hge] at h

section
variable {w w' : World} {B bs bm bt n k t : Nat} {ws : Nat → ByteArray} {tb cb : Nat → Nat} {X : List Ent} {clock : Nat}

/-- Where no block that was there has turned. -/
theorem Bd.grown (D : Bd w B bs bm bt n k t ws tb cb X clock) (h : ∀ i, i < w.heap.size → w'.heap[i]? = w.heap[i]?) : Bd w' B bs bm bt n k t ws tb cb X clock := by
  have hh : ∀ {i : Nat} {o : Obj}, w.heap[i]? = some o → w'.heap[i]? = some o := fun {i o} hi => (h i (lt_of_heap hi)).trans hi
  obtain ⟨tc, t1, t2, t3⟩ := D.tur
  refine ⟨hh D.blk, hh D.map, D.nod, fun x hx => ⟨(D.row x hx).1, ?_⟩, D.dis, D.nbt, D.que, ⟨tc, hh t1, t2, t3⟩, fun j hj => ⟨hh (D.chn j hj).1, hh (D.chn j hj).2.1, (D.chn j hj).2.2⟩, D.inj, D.low⟩
  obtain ⟨r1, r2⟩ := (D.row x hx).2
  refine ⟨r1, ?_⟩
  rcases r2 with r2 | ⟨g, cap, cur, hv, hg, hcur, rest⟩
  · exact Or.inl r2
  · exact Or.inr ⟨g, cap, cur, hv, hg, hh hcur, rest⟩
theorem Bd.alloc (D : Bd w B bs bm bt n k t ws tb cb X clock) (o : Obj) : Bd (w.alloc o) B bs bm bt n k t ws tb cb X clock := D.grown fun _ hi => Below.heap_alloc _ _ _ hi
theorem Bd.drew (D : Bd w B bs bm bt n k t ws tb cb X clock) : Bd w.drew B bs bm bt n k t ws tb cb X clock := D.grown fun _ _ => rfl

def noMap : Obj → Bool
  | .map .. => false
  | _ => true

def updN (f : Nat → Nat) (k v : Nat) : Nat → Nat := fun j => if j = k then v else f j

theorem map_updN {q : List Nat} {f : Nat → Nat} {k v : Nat} (h : ∀ j ∈ q, j < k) : q.map (fun j => ptr (updN f k v j)) = q.map fun j => ptr (f j) := by
  refine List.map_congr_left fun j hj => ?_
  have := h j hj
  simp [updN, show j ≠ k by omega]

theorem ptr_updN_old {f : Nat → Nat} {j k v : Nat} (h : j < k) : updN f k v j = f j := by simp [updN, show j ≠ k by omega]

/-- A new turn, whose channel and struct lie already, is laid into the list of turns. -/
theorem Bd.turn {c b : Nat} (D : Bd w B bs bm bt n k k ws tb cb X clock) (hk : k < n) (hc : w.heap[c]? = some (.chan 0 #[] false 0 0 false)) (hB : B ≤ c) (hb : w.heap[b]? = some (.cells #[.string (ws k), .chan (some c)] 70 (0, 0))) (hnew : ∀ j, j < k → cb j ≠ c) :
    Bd (w.setCell ⟨bt, k, none⟩ (ptr b)) B bs bm bt n k (k + 1) ws (updN tb k b) (updN cb k c) X clock := by
  obtain ⟨tc, t1, t2, t3⟩ := D.tur
  have ho : ∀ {i : Nat} {o : Obj}, w.heap[i]? = some o → (∀ c f, o ≠ .cells c 38 f) → (w.setCell ⟨bt, k, none⟩ (ptr b)).heap[i]? = some o := fun {i o} hi hn => by
    rw [Below.heap_setCell _ _ _ _ (fun e => by simp only at e; subst e; rw [t1] at hi; cases hi; exact hn _ _ rfl)]
    exact hi
  refine ⟨ho D.blk (by simp), ho D.map (by simp), D.nod, fun x hx => ⟨(D.row x hx).1, ?_⟩, D.dis, D.nbt, D.que, ⟨tc.setIfInBounds k (ptr b), ?_, by simpa using t2, fun j hj => ?_⟩, fun j hj => ?_, fun i j hi hj h => ?_, ⟨D.low.1, D.low.2.1, D.low.2.2.1, by omega, by omega⟩⟩
  · have hq : ∀ j ∈ x.q, j < k := fun j hj => by
      rw [← Qf_mem D.nod hx, D.que] at hj
      exact (mem_idxs.1 hj).1
    rw [map_updN hq]
    refine (D.row x hx).2.kept (w' := w.setCell ⟨bt, k, none⟩ (ptr b)) (row := some bt) ⟨rfl, rfl, rfl, by simp, fun i _ hne => Below.heap_setCell _ _ _ _ (fun e => hne (by rw [e]))⟩ (Or.inr (D.nbt x hx))
  · simp [World.setCell, Array.getElem?_modify, t1]
  · by_cases e : j = k
    · subst e
      simp [updN, t2, hk]
    · rw [ptr_updN_old (by omega), Array.getElem?_setIfInBounds_ne (Ne.symm e)]
      exact t3 j (by omega)
  · by_cases e : j = k
    · subst e
      simp only [updN, if_true]
      exact ⟨ho hb (by simp), ho hc (by simp), hB⟩
    · rw [ptr_updN_old (by omega), ptr_updN_old (by omega)]
      obtain ⟨c1, c2, c3⟩ := D.chn j (by omega)
      exact ⟨ho c1 (by simp), ho c2 (by simp), c3⟩
  · by_cases ei : i = k
    · by_cases ej : j = k
      · omega
      · subst ei
        rw [ptr_updN_old (f := cb) (j := j) (by omega)] at h
        simp only [updN, if_true] at h
        exact absurd h.symm (hnew j (by omega))
    · by_cases ej : j = k
      · subst ej
        rw [ptr_updN_old (f := cb) (j := i) (by omega)] at h
        simp only [updN, if_true] at h
        exact absurd h (hnew i (by omega))
      · rw [ptr_updN_old (by omega), ptr_updN_old (by omega)] at h
        exact D.inj i j (by omega) (by omega) h

/-- The slice at a key owns the queue's row. -/
theorem Bd.at (D : Bd w B bs bm bt n k t ws tb cb X clock) (r : ByteArray) : w.ownsRow B 38 1 (valAt r (.slice none 0 0) X) (idxs ws r k).length ((idxs ws r k).map fun j => ptr (tb j)) := by
  rcases at_key r (.slice none 0 0) X with ⟨x, hx, hk, h1, h2, _⟩ | ⟨_, h1, h2, _⟩
  · rw [h1, ← D.que r, h2]
    exact (D.row x hx).2
  · rw [h1, ← D.que r, h2]
    exact World.ownsRow_nil _ _ _ _

/-- The append and the store: update k is in its row's queue. -/
theorem Bd.put {w1 : World} {g cap H c' : Nat} (D : Bd w B bs bm bt n k (k + 1) ws tb cb X clock)
    (hown : w1.ownsRow B 38 1 (.slice (some ⟨g, 0, none⟩) ((idxs ws (ws k) k).length + 1) cap) ((idxs ws (ws k) k).length + 1) ((idxs ws (ws k) k).map (fun j => ptr (tb j)) ++ [ptr (tb k)]))
    (hg : w.grownBy w1 (valAt (ws k) (.slice none 0 0) X).ownBlock) (hat : (valAt (ws k) (.slice none 0 0) X).ownBlock = some g ∨ g = H) (hH : w.heap.size = H) :
    Bd (setB w1 bm (.map (toEs (putE (ws k) (.slice (some ⟨g, 0, none⟩) ((idxs ws (ws k) k).length + 1) cap) (idxs ws (ws k) k ++ [k]) clock X)) c')) B bs bm bt n (k + 1) (k + 1) ws tb cb
      (putE (ws k) (.slice (some ⟨g, 0, none⟩) ((idxs ws (ws k) k).length + 1) cap) (idxs ws (ws k) k ++ [k]) clock X) c' := by
  -- which block the slice at the key lies in
  have hv : ∀ b, (valAt (ws k) (.slice none 0 0) X).ownBlock = some b → (∃ cur, w.heap[b]? = some (.cells cur 38 (0, 0))) ∧ ∃ x ∈ X, x.key = ws k ∧ x.val.ownBlock = some b := by
    intro b hb
    rcases at_key (ws k) (.slice none 0 0) X with ⟨x, hx, hk, h1, _⟩ | ⟨_, h1, _⟩
    · rw [h1] at hb
      refine ⟨?_, x, hx, hk, hb⟩
      rcases (D.row x hx).2.2 with ⟨h2, _⟩ | ⟨g', cap', cur, h2, _, h3, _⟩
      · rw [h2] at hb; simp [Value.ownBlock] at hb
      · rw [h2] at hb
        simp only [Value.ownBlock, Option.some.injEq] at hb
        exact ⟨cur, by rw [← hb]; exact h3⟩
    · rw [h1] at hb; simp [Value.ownBlock] at hb
  have keep : ∀ {i : Nat} {o : Obj}, w.heap[i]? = some o → (∀ c f, o ≠ .cells c 38 f) → w1.heap[i]? = some o := fun {i o} hi hn => by
    rw [hg.block i (lt_of_heap hi) (fun e => by
      obtain ⟨⟨cur, hc⟩, _⟩ := hv i e.symm
      rw [hi] at hc
      cases hc
      exact hn _ _ rfl)]
    exact hi
  have hm1 : w1.heap[bm]? = some (.map (toEs X) clock) := keep D.map (by simp)
  have keep2 : ∀ {i : Nat} {o o' : Obj}, w.heap[i]? = some o → (∀ c f, o ≠ .cells c 38 f) → noMap o = true → (setB w1 bm o').heap[i]? = some o := fun {i o o'} hi hn hnm => by
    rw [heap_setB_other (fun e => by subst e; rw [D.map] at hi; cases hi; simp [noMap] at hnm)]
    exact keep hi hn
  obtain ⟨tc, t1, t2, t3⟩ := D.tur
  have hbt : ∀ x ∈ X, x.key = ws k → x.val.ownBlock ≠ some bt := fun x hx _ => D.nbt x hx
  have ht1 : w1.heap[bt]? = some (.cells tc 38 (0, 0)) := by
    rw [hg.block bt (lt_of_heap t1) (fun e => by
      obtain ⟨_, x, hx, hk, hxb⟩ := hv bt e.symm
      exact hbt x hx hk hxb)]
    exact t1
  have hbtm : bt ≠ bm := fun e => by rw [e, D.map] at t1; cases t1
  have hgbm : g ≠ bm := fun e => by
    rcases hown.2 with ⟨h2, _⟩ | ⟨g', cap', cur, h2, _, h3, _⟩
    · cases h2
    · cases h2
      rw [e, hm1] at h3
      cases h3
  -- rows of the others
  have other : ∀ y ∈ X, y.key ≠ ws k → (setB w1 bm (.map (toEs (putE (ws k) (.slice (some ⟨g, 0, none⟩) ((idxs ws (ws k) k).length + 1) cap) (idxs ws (ws k) k ++ [k]) clock X)) c')).ownsRow B 38 1 y.val y.q.length (y.q.map fun j => ptr (tb j)) ∧ y.val.ownBlock ≠ some g := by
    intro y hy hne
    obtain ⟨r1, r2⟩ := D.row y hy
    have hnv : y.val.ownBlock ≠ (valAt (ws k) (.slice none 0 0) X).ownBlock := by
      intro e
      cases hb : (valAt (ws k) (.slice none 0 0) X).ownBlock with
      | none =>
        rw [hb] at e
        rcases r2.2 with ⟨h2, h3⟩ | ⟨g', cap', cur, h2, _⟩
        · exact r1 (List.length_eq_zero_iff.1 h3)
        · rw [h2] at e; simp [Value.ownBlock] at e
      | some b =>
        obtain ⟨_, x, hx, hk, hxb⟩ := hv b hb
        exact D.dis y hy x hx (by rw [hk]; exact hne) (by rw [e, hb, hxb])
    have r3 := r2.kept hg (Or.inr hnv)
    rcases r3.2 with ⟨_, h3⟩ | ⟨g', cap', cur, h2, h4, h5, h6⟩
    · exact absurd (List.length_eq_zero_iff.1 h3) r1
    · refine ⟨⟨r3.1, Or.inr ⟨g', cap', cur, h2, h4, ?_, h6⟩⟩, ?_⟩
      · rw [heap_setB_other (fun e => by rw [e, hm1] at h5; cases h5)]
        exact h5
      · rcases r2.2 with ⟨_, h3⟩ | ⟨g2, cap2, cur2, h2', _, h5', _⟩
        · exact absurd (List.length_eq_zero_iff.1 h3) r1
        · rcases hat with hat | hat
          · rw [← hat]; exact hnv
          · rw [h2']
            simp only [Value.ownBlock, ne_eq, Option.some.injEq]
            have := lt_of_heap h5'
            omega
  have hlen : (idxs ws (ws k) k ++ [k]).length = (idxs ws (ws k) k).length + 1 := by simp
  refine ⟨keep2 D.blk (by simp) rfl, heap_setB_same (lt_of_heap hm1), nodup_put D.nod, ?_, ?_, ?_, ?_, ⟨tc, ?_, t2, t3⟩, fun j hj => ?_, D.inj, ⟨D.low.1, D.low.2.1, D.low.2.2.1, by omega, D.low.2.2.2.2⟩⟩
  · intro y hy
    rcases mem_put D.nod hy with ⟨h1, h2⟩ | ⟨h1, h2, h3⟩
    · exact ⟨(D.row y h1).1, (other y h1 h2).1⟩
    · rw [h3, h2]
      refine ⟨by simp, ?_⟩
      rw [hlen, List.map_append]
      rcases hown.2 with ⟨h4, _⟩ | ⟨g', cap', cur, h4, h5, h6, h7⟩
      · cases h4
      · refine ⟨hown.1, Or.inr ⟨g', cap', cur, h4, h5, ?_, h7⟩⟩
        cases h4
        rw [heap_setB_other hgbm]
        exact h6
  · intro x hx y hy hne
    rcases mem_put D.nod hx with ⟨h1, h2⟩ | ⟨h1, h2, _⟩
    · rcases mem_put D.nod hy with ⟨p1, p2⟩ | ⟨p1, p2, _⟩
      · exact D.dis x h1 y p1 hne
      · rw [p2]; exact (other x h1 h2).2
    · rcases mem_put D.nod hy with ⟨p1, p2⟩ | ⟨p1, p2, _⟩
      · rw [h2]; exact fun e => (other y p1 p2).2 e.symm
      · exact absurd (h1.trans p1.symm) hne
  · intro x hx
    rcases mem_put D.nod hx with ⟨h1, _⟩ | ⟨_, h2, _⟩
    · exact D.nbt x h1
    · rw [h2]
      intro e
      simp only [Value.ownBlock, Option.some.injEq] at e
      rcases hat with hat | hat
      · obtain ⟨_, x', hx', hk', hxb⟩ := hv g hat
        exact hbt x' hx' hk' (by rw [hxb, e])
      · have := lt_of_heap t1
        omega
  · intro r
    rw [idxs_succ]
    by_cases e : ws k = r
    · subst e
      rw [Qf_put_same, if_pos rfl]
    · rw [Qf_put_other (Ne.symm e), D.que, if_neg e, List.append_nil]
  · rw [heap_setB_other hbtm]; exact ht1
  · obtain ⟨c1, c2, c3⟩ := D.chn j hj
    exact ⟨keep2 c1 (by simp) rfl, keep2 c2 (by simp) rfl, c3⟩
end
end Go.Proofs.Qxb6612990a
