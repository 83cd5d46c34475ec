/-
  'ZZnewRowWaits': the walk.
-/
import Derived.Test.Qxb6612990aBuild
import Derived.Deep.OwnRows
import Derived.Deep.RegionHeldLaw
import Derived.Deep.AppendLies
import Derived.Conc.SmallLaws
namespace Go.Proofs.Qxb6612990a
open Go.RowKit

theorem info38 : (Try.prog.info? 38).map (fun i => (i.zero, i.size, i.bytes)) = some (some (.pointer none), 1, 8) := by kernel_rfl
theorem info51 : ∃ i, Try.prog.info? 51 = some i ∧ i.bytes = 0 := by
  have h : (Try.prog.info? 51).map (·.bytes) = some 0 := by kernel_rfl
  obtain ⟨i, hi, hb⟩ := Option.map_eq_some_iff.1 h
  exact ⟨i, hi, hb⟩
theorem mkChan (w : World) : (Instr.makeChan 68 (.int .i64 0)).run Try.prog w = .ok (.chan (some w.heap.size)) (w.alloc (.chan 0 #[] false 0 0 false)) := by
  obtain ⟨i, hi, hb⟩ := info51
  simpa using Go.Conc.run_makeChan (P := Try.prog) (w := w) Try.underlying68 hi .i64 0 (by omega) (by rw [hb]; omega)

/-- Behind the three blocks that the call lays first. -/
theorem bd_start (w : World) (n : Nat) (ws : Nat → ByteArray) (cells : Array Value) (hs : cells.size = n) :
    Bd (((w.alloc (.map #[] 0)).alloc (.cells #[.int .i32 0, .int .u32 0, .map (some w.heap.size)] 67)).alloc (.cells cells 38)) w.heap.size (w.heap.size + 1) w.heap.size (w.heap.size + 1 + 1) n 0 0 ws (fun _ => 0) (fun _ => 0) [] 0 := by
  refine ⟨?_, ?_, by simp [keys], by simp, by simp, by simp, fun r => by simp [Qf, idxs], ⟨cells, ?_, hs, by omega⟩, by omega, by omega, ⟨by omega, by omega, by omega, by omega, by omega⟩⟩
  · show (((w.heap.push _).push _).push _)[w.heap.size + 1]? = _
    rw [Array.getElem?_push, if_neg (by simp), Array.getElem?_push, if_pos (by simp)]
  · show (((w.heap.push _).push _).push _)[w.heap.size]? = _
    rw [Array.getElem?_push, if_neg (by simp; omega), Array.getElem?_push, if_neg (by simp), Array.getElem?_push, if_pos rfl]
    rfl
  · show (((w.heap.push _).push _).push _)[w.heap.size + 1 + 1]? = _
    rw [Array.getElem?_push, if_pos (by simp)]

/-- The condition of the drawn region: two cells and the map's block. -/
theorem s3_alloc {W : World} {a1 a2 : Addr} {x y : Value} {b : Nat} {o' : Obj} (h1 : W.cell? a1 = some x) (h2 : W.cell? a2 = some y) (h3 : W.heap[b]? = some o') (o : Obj) :
    (W.alloc o).cell? a1 = some x ∧ (W.alloc o).cell? a2 = some y ∧ (W.alloc o).heap[b]? = some o' :=
  ⟨cell_old (Below.heap_alloc _ _ _ (cell_lt h1)) h1, cell_old (Below.heap_alloc _ _ _ (cell_lt h2)) h2, (Below.heap_alloc _ _ _ (lt_of_heap h3)).trans h3⟩
theorem s3_grown {W w1 : World} {a1 a2 : Addr} {x y : Value} {b : Nat} {o' : Obj} {r : Option Nat} (h : W.cell? a1 = some x ∧ W.cell? a2 = some y ∧ W.heap[b]? = some o') (hg : W.grownBy w1 r) (n1 : some a1.block ≠ r) (n2 : some a2.block ≠ r) (n3 : some b ≠ r) :
    w1.cell? a1 = some x ∧ w1.cell? a2 = some y ∧ w1.heap[b]? = some o' :=
  ⟨cell_old (hg.block _ (cell_lt h.1) n1) h.1, cell_old (hg.block _ (cell_lt h.2.1) n2) h.2.1, (hg.block _ (lt_of_heap h.2.2) n3).trans h.2.2⟩
/-- The row that a value owns lies in none of the other blocks. -/
theorem own_apart {W : World} {B : Nat} {v : Value} {n : Nat} {xs : List Value} (h : W.ownsRow B 38 1 v n xs) : (∀ b, b < B → some b ≠ v.ownBlock) ∧ ∀ b o, W.heap[b]? = some o → (∀ c f, o ≠ .cells c 38 f) → some b ≠ v.ownBlock := by
  rcases h.2 with ⟨rfl, _⟩ | ⟨g, cap, cur, rfl, hg, hc, _⟩
  · exact ⟨fun b _ => by simp [Value.ownBlock], fun b o _ _ => by simp [Value.ownBlock]⟩
  · refine ⟨fun b hb e => ?_, fun b o hb hn e => ?_⟩
    · simp only [Value.ownBlock, Option.some.injEq] at e; omega
    · simp only [Value.ownBlock, Option.some.injEq] at e
      rw [e, hc] at hb
      cases hb
      exact hn _ _ rfl

theorem put_fits {w W2 w1 : World} {B bs bm bt n k : Nat} {wl : List ByteArray} {tb cb : Nat → Nat} {X : List Ent} {clock c' : Nat} {row : ByteArray} {q : List Nat} {v : Value} {g cap bk : Nat}
    (hD : Bd W2 B bs bm bt n k (k + 1) (fun j => wl.getD j ByteArray.empty) tb cb X clock) (HR : wl.getD k ByteArray.empty = row) (hq : idxs (fun j => wl.getD j ByteArray.empty) row k = q) (hv : valAt row (.slice none 0 0) X = v) (htb : tb k = bk)
    (hown1 : w1.ownsRow B 38 1 (.slice (some ⟨g, 0, none⟩) (q.length + 1) cap) (q.length + 1) (q.map (fun j => ptr (tb j)) ++ [.pointer (some ⟨bk, 0, none⟩)]))
    (hgrow : (W2.alloc (.cells #[.pointer (some ⟨bk, 0, none⟩)] 38)).drew.grownBy w1 v.ownBlock) (hat : v.ownBlock = some g ∨ g = W2.heap.size + 1) (hlow : Below B w W2) (hbm : B ≤ W2.heap.size) :
    Bd (setB w1 bm (.map (toEs (putE row (.slice (some ⟨g, 0, none⟩) (q.length + 1) cap) (q ++ [k]) clock X)) c')) B bs bm bt n (k + 1) (k + 1) (fun j => wl.getD j ByteArray.empty) tb cb (putE row (.slice (some ⟨g, 0, none⟩) (q.length + 1) cap) (q ++ [k]) clock X) c' ∧
      Below B w (setB w1 bm (.map (toEs (putE row (.slice (some ⟨g, 0, none⟩) (q.length + 1) cap) (q ++ [k]) clock X)) c')) := by
  subst HR hq hv htb
  refine ⟨((hD.alloc _).drew).put hown1 hgrow hat (by simp), ?_⟩
  have h1 := ((hlow.alloc hbm (.cells #[.pointer (some ⟨tb k, 0, none⟩)] 38)).drew).grown hgrow (by simp; omega) (fun b hb => by
    have := (own_apart (hD.at (wl.getD k ByteArray.empty))).1 b
    rcases Nat.lt_or_ge b B with h | h
    · exact absurd hb.symm (this h)
    · exact h)
  exact h1.trans (below_setB hD.low.2.1)

set_option maxRecDepth 10000 in
set_option maxHeartbeats 1000000 in
theorem new_any {w : World} {v : Value} {wl : List ByteArray} (hv : StrsAt w v wl) :
    Calls Try.prog 11 #[v] w fun e w' => e = .returned (.tuple #[.pointer (some ⟨w.heap.size + 1, 0, none⟩), .slice (some ⟨w.heap.size + 1 + 1, 0, none⟩) wl.length wl.length]) ∧ ∃ tb cb X clock,
      Bd w' w.heap.size (w.heap.size + 1) w.heap.size (w.heap.size + 1 + 1) wl.length wl.length wl.length (fun j => wl.getD j ByteArray.empty) tb cb X clock ∧ Below w.heap.size w w' := by
  obtain ⟨a, c, rfl, hlen, hs⟩ := hv
  obtain ⟨n, hn⟩ : ∃ n, wl.length = n := ⟨_, rfl⟩
  rw [hn] at hlen ⊢
  have hmm := @run_makeMap Try.prog
  have hmk := fun w => run_make_row' (P := Try.prog) 32 38 (.pointer none) 8 Try.underlying32 info38 rfl .i64 .i64 n (by omega) (by omega) w
  have hb0 : Below w.heap.size w (((w.alloc (.map #[] 0)).alloc (.cells #[.int .i32 0, .int .u32 0, .map (some w.heap.size)] 67)).alloc (.cells (madeCells #[.pointer none] n) 38)) :=
    (((Below.refl _ _).alloc (Nat.le_refl _) _).alloc (by simp) _).alloc (by simp; omega) _
  go_enter Try.func11, Try.ntmps11
  go_wp2
  go_loopw [16] (fun i wr => ∃ k tb cb X clock, k ≤ n ∧ i = .int .i64 (k : Nat) ∧ Bd wr w.heap.size (w.heap.size + 1) w.heap.size (w.heap.size + 1 + 1) n k k (fun j => wl.getD j ByteArray.empty) tb cb X clock ∧ Below w.heap.size w wr) (fun i _ => n - (intOf i).toNat)
  case atStart => exact ⟨0, _, _, _, _, Nat.zero_le _, rfl, bd_start w n _ _ (size_madeCells _ _), hb0⟩
  case round =>
    obtain ⟨k, tb, cb, X, clock, hk, rfl, D, hB⟩ := hrel
    by_cases hlt : k < n
    · obtain ⟨ad, hix, hcell⟩ := str_at (c := c) hn hs k hlt
      have hadB : ad.block < w.heap.size := cell_lt hcell
      have hc1 := cell_old (hB.block _ hadB) hcell
      have hlt' : (k : Int) < (n : Int) := by omega
      obtain ⟨row, hrow⟩ : ∃ row, wl.getD k ByteArray.empty = row := ⟨_, rfl⟩
      rw [hrow] at hc1
      have HR : Hid (wl.getD k ByteArray.empty = row) := hrow
      have hch := mkChan
      have D1 := (D.alloc (.chan 0 #[] false 0 0 false)).alloc (.cells #[.string row, .chan (some wr.heap.size)] 70)
      have n1 : (((wr.alloc (.chan 0 #[] false 0 0 false)).alloc (.cells #[.string row, .chan (some wr.heap.size)] 70))).heap[wr.heap.size]? = some (.chan 0 #[] false 0 0 false) := by
        rw [Below.heap_alloc _ _ _ (by simp)]; exact heap_alloc_new wr _
      have n2 : (((wr.alloc (.chan 0 #[] false 0 0 false)).alloc (.cells #[.string row, .chan (some wr.heap.size)] 70))).heap[wr.heap.size + 1]? = some (.cells #[.string row, .chan (some wr.heap.size)] 70 (0, 0)) := by
        have := heap_alloc_new (wr.alloc (.chan 0 #[] false 0 0 false)) (.cells #[.string row, .chan (some wr.heap.size)] 70)
        simpa only [World.size_alloc] using this
      have D2 := D1.turn hlt n1 hB.size (by rw [hrow]; exact n2) (fun j hj e => by
        have := lt_of_heap (D.chn j hj).2.1
        omega)
      obtain ⟨tc, t1, t2, _⟩ := D1.tur
      have hst1 : ((wr.alloc (.chan 0 #[] false 0 0 false)).alloc (.cells #[.string row, .chan (some wr.heap.size)] 70)).cell? ⟨w.heap.size + 1 + 1, k, none⟩ = some (tc.getD k .nilFunc) := by
        simp only [World.cell?, t1]
        simp [t2, hlt]
      have hst2 : ((wr.alloc (.chan 0 #[] false 0 0 false)).alloc (.cells #[.string row, .chan (some wr.heap.size)] 70)).frozen? ⟨w.heap.size + 1 + 1, k, none⟩ = false := by
        simp [World.frozen?, t1]
      generalize tc.getD k .nilFunc = u0 at hst1
      have hd2 := D2.drew
      have hcell0 : Hid (w.cell? ad = some (.string row)) := by rw [hrow] at hcell; exact hcell
      clear hcell hmm hmk hb0 hrow D1 n1 n2 t1 t2 D D2
      go_wp2
      go_region_held (fun w' => w'.cell? ad = some (.string row)) (go_keep) (fail)
      go_wp2
      unfold ptr at hd2
      have hB2 : Below w.heap.size w (((wr.alloc (.chan 0 #[] false 0 0 false)).alloc (.cells #[.string row, .chan (some wr.heap.size)] 70)).setCell ⟨w.heap.size + 1 + 1, k, none⟩ (.pointer (some ⟨wr.heap.size + 1, 0, none⟩))).drew :=
        (((hB.alloc hB.size _).alloc (Nat.le_trans hB.size (by simp)) _).setCell (p := ⟨w.heap.size + 1 + 1, k, none⟩) (by simp; omega) _).drew
      have hc2 := cell_old (hB2.block _ hadB) (hcell0.out)
      have htb : Hid (updN tb k (wr.heap.size + 1) k = wr.heap.size + 1) := by simp [Hid, updN]
      generalize updN tb k (wr.heap.size + 1) = tb' at hd2 htb
      generalize updN cb k wr.heap.size = cb' at hd2
      generalize wr.heap.size + 1 = bk at *
      generalize (((wr.alloc (.chan 0 #[] false 0 0 false)).alloc (.cells #[.string row, .chan (some wr.heap.size)] 70)).setCell ⟨w.heap.size + 1 + 1, k, none⟩ (.pointer (some ⟨bk, 0, none⟩))).drew = W2 at hd2 hB2 hc2 ⊢
      clear hst1 hst2 hc1 hB hch
      have hf2 : W2.cell? ⟨w.heap.size + 1, 2, none⟩ = some (.map (some w.heap.size)) := by simp [World.cell?, hd2.blk]
      have hm2 := hd2.map
      have hlook : ∀ w', w'.heap[w.heap.size]? = some (.map (toEs X) clock) → (Instr.lookup 59 (.map (some w.heap.size)) (.string row) false).run Try.prog w' = .ok (valAt row (.slice none 0 0) X) w' := fun w' h => by
        have := run_lookup_ents (P := Try.prog) (t := 59) Try.underlying59 Try.underlying9 (Try.zeroValue32 w') h row false
        simpa using this
      have hupd : ∀ w' v', w'.heap[w.heap.size]? = some (.map (toEs X) clock) → (Instr.mapUpdate 59 (.map (some w.heap.size)) (.string row) v').run Try.prog w' = .ok () (setB w' w.heap.size (.map (toEs (putE row v' (idxs (fun j => wl.getD j ByteArray.empty) row k ++ [k]) clock X)) (nclock row X clock))) := fun w' v' h =>
        run_mapUpdate_ents (P := Try.prog) (t := 59) Try.underlying59 Try.underlying9 h row v' _
      have hown := hd2.at row
      obtain ⟨i0, hi, hz0, hz1, hz2⟩ := info_parts info38
      have hAp := own_apart hown
      have hn1 : some (w.heap.size + 1) ≠ (valAt row (.slice none 0 0) X).ownBlock := hAp.2 _ _ hd2.blk (by simp)
      have hn2 : some ad.block ≠ (valAt row (.slice none 0 0) X).ownBlock := hAp.1 _ hadB
      have hn3 : some w.heap.size ≠ (valAt row (.slice none 0 0) X).ownBlock := hAp.2 _ _ hm2 (by simp)
      have hL := idxs_length_le (fun j => wl.getD j ByteArray.empty) row k
      generalize hv : valAt row (.slice none 0 0) X = v at *
      generalize hq : idxs (fun j => wl.getD j ByteArray.empty) row k = q at *
      have hs2 := s3_alloc hf2 hc2 hm2 (.cells #[.pointer (some ⟨bk, 0, none⟩)] 38)
      have hown2 : Hid ((W2.alloc (.cells #[.pointer (some ⟨bk, 0, none⟩)] 38)).ownsRow w.heap.size 38 1 v q.length (q.map fun j => ptr (tb' j))) := hown.alloc _
      have hsz := hB2.size
      have hD : Hid (Bd W2 w.heap.size (w.heap.size + 1) w.heap.size (w.heap.size + 1 + 1) n k (k + 1) (fun j => wl.getD j ByteArray.empty) tb' cb' X clock) := hd2
      have hV : Hid (valAt row (.slice none 0 0) X = v) := hv
      have hQ : Hid (idxs (fun j => wl.getD j ByteArray.empty) row k = q) := hq
      clear hd2 hown hv hq hAp
      have hlookA := hlook W2.drew hm2
      have hlookB := hlook (W2.alloc (.cells #[.pointer (some ⟨bk, 0, none⟩)] 38)).drew hs2.2.2
      have HU : Hid (∀ w' v', w'.heap[w.heap.size]? = some (.map (toEs X) clock) → (Instr.mapUpdate 59 (.map (some w.heap.size)) (.string row) v').run Try.prog w' = .ok () (setB w' w.heap.size (.map (toEs (putE row v' (q ++ [k]) clock X)) (nclock row X clock)))) := hupd
      clear hlook hupd
      go_region_held_law (fun w' => w'.cell? ⟨w.heap.size + 1, 2, none⟩ = some (.map (some w.heap.size)) ∧ w'.cell? ad = some (.string row))
        (first | exact ⟨hf2, hc2⟩ | assumption | exact ⟨hs2.1, hs2.2.1⟩ | exact ⟨hs3.1, hs3.2.1⟩ | exact ⟨cell_setB hs3.2.2 rfl hs3.1, cell_setB hs3.2.2 rfl hs3.2.1⟩)
        ((refine step_append_lies _ rfl (.tmp 46) (.tmp 48) 32 rfl w.heap.size 38 i0 (.pointer none) 1 8 Try.underlying32 hi hz0 hz1 hz2 rfl (by decide) v q.length (q.map fun j => ptr (tb' j)) (by simp [Act.eval]) hown2.out ⟨W2.heap.size, 0, none⟩ 1 1 [.pointer (some ⟨bk, 0, none⟩)] (by simp [Act.eval]) rfl (World.news_of_block (heap_alloc_new W2 _)) (by simp [Value.oneCell']) (by omega) (by unfold maxLen; omega) (by omega) (by simp; omega) (W2.heap.size + 1) (by simp) ?_; intro g cap w1 hown1 hgrow hat hglt; have hs3 := s3_grown (W := (W2.alloc (.cells #[.pointer (some ⟨bk, 0, none⟩)] 38)).drew) hs2 hgrow hn1 hn2 hn3; have hup1 := HU.out w1 (.slice (some ⟨g, 0, none⟩) (q.length + 1) cap) hs3.2.2))
      all_goals
        have hfit := put_fits (c' := nclock row X clock) hD.out HR.out hQ.out hV.out htb.out hown1 hgrow hat hB2 hsz
        have hF : Hid _ := hfit
        clear hfit hown1 hgrow hat hglt hs3 hup1 hlookA hlookB hn1 hn2 hn3 hs2 hix hf2 hc2 hm2
        go_wp2
        go_roundw
        case rel => exact ⟨k + 1, _, _, _, _, by omega, by go_num, hF.out.1, hF.out.2⟩
        case measure => simp [intOf]; omega
    · have hge : ¬ (k : Int) < (n : Int) := by omega
      have hkn : k = n := by omega
      have hfin : Hid (Bd wr w.heap.size (w.heap.size + 1) w.heap.size (w.heap.size + 1 + 1) n n n (fun j => wl.getD j ByteArray.empty) tb cb X clock) := by
        rw [hkn] at D; exact D
      clear hkn D hs hmm hmk hb0
      go_wp2
      go_ret2
      exact ⟨rfl, ⟨tb, cb, X, clock, hfin.out⟩, hB⟩
end Go.Proofs.Qxb6612990a
