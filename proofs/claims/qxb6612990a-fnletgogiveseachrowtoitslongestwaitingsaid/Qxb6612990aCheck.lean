/-
  The plain law: what the law's own loops count is what the queues hold. No Go in sight.
-/
import Derived.Test.Qxb6612990aPlain
namespace Go.Proofs.Qxb6612990a

def wsOf (wl : List ByteArray) (j : Nat) : ByteArray := wl.getD j ByteArray.empty

theorem take_succ_ws {wl : List ByteArray} {j : Nat} (h : j < wl.length) : wl.take (j + 1) = wl.take j ++ [wsOf wl j] := by
  rw [List.take_succ_eq_append_getElem h]
  simp [wsOf, h]

theorem cnt_take_succ {wl : List ByteArray} {j : Nat} (h : j < wl.length) (r : ByteArray) : cnt r (wl.take (j + 1)) = cnt r (wl.take j) + if r = wsOf wl j then 1 else 0 := by
  rw [take_succ_ws h, cnt_snoc]

theorem idxs_len (wl : List ByteArray) (r : ByteArray) : ∀ j, j ≤ wl.length → (idxs (wsOf wl) r j).length = cnt r (wl.take j)
  | 0, _ => by simp [idxs, cnt]
  | j + 1, h => by
    have ih := idxs_len wl r j (by omega)
    rw [idxs_succ, cnt_take_succ (by omega), List.length_append, ih]
    by_cases e : wsOf wl j = r
    · simp [e]
    · simp [e, Ne.symm e]

theorem idxs_split (ws : Nat → ByteArray) (r : ByteArray) (j : Nat) (h : ws j = r) : ∀ m, j + 1 ≤ m → ∃ t, idxs ws r m = idxs ws r j ++ j :: t
  | 0, hm => by omega
  | m + 1, hm => by
    by_cases e : j + 1 = m + 1
    · have : j = m := by omega
      subst this
      exact ⟨[], by rw [idxs_succ, if_pos h]⟩
    · obtain ⟨t, ht⟩ := idxs_split ws r j h m (by omega)
      exact ⟨t ++ (if ws m = r then [m] else []), by rw [idxs_succ, ht]; simp⟩

theorem idxs_at {wl : List ByteArray} {j : Nat} (h : j < wl.length) : (idxs (wsOf wl) (wsOf wl j) wl.length)[cnt (wsOf wl j) (wl.take j)]? = some j := by
  obtain ⟨t, ht⟩ := idxs_split (wsOf wl) (wsOf wl j) j rfl wl.length h
  rw [ht, ← idxs_len wl _ j (by omega)]
  simp

theorem nodup_index {l : List Nat} (hn : l.Nodup) {i i' x : Nat} (h : l[i]? = some x) (h' : l[i']? = some x) : i = i' := by
  obtain ⟨hi, e⟩ := List.getElem?_eq_some_iff.1 h
  obtain ⟨hi', e'⟩ := List.getElem?_eq_some_iff.1 h'
  exact (List.getElem_inj hn).1 (e.trans e'.symm)

section
variable {wl rs : List ByteArray} {Q' : ByteArray → List Nat} {cl' : Nat → Bool}

theorem given_iff (hd : Done rs (fun r => idxs (wsOf wl) r wl.length) Q' (fun _ => false) cl') {j : Nat} (h : j < wl.length) : cl' j = decide (cnt (wsOf wl j) (wl.take j) < cnt (wsOf wl j) rs) := by
  have hat := idxs_at h
  have hn := idxs_nodup (wsOf wl) (wsOf wl j) wl.length
  have key : cl' j = true ↔ cnt (wsOf wl j) (wl.take j) < cnt (wsOf wl j) rs := by
    rw [hd.2 j]
    constructor
    · rintro (h0 | ⟨k, hk⟩)
      · cases h0
      · have hm := List.mem_of_mem_take hk
        have hw := (mem_idxs.1 hm).2
        subst hw
        obtain ⟨i, hi⟩ := List.getElem?_of_mem hk
        rw [List.getElem?_take] at hi
        split at hi
        · rename_i hlt
          rw [← nodup_index hn hi hat]
          exact hlt
        · cases hi
    · intro hlt
      refine Or.inr ⟨wsOf wl j, List.mem_of_getElem? (i := cnt (wsOf wl j) (wl.take j)) ?_⟩
      rw [List.getElem?_take, if_pos hlt]
      exact hat
  cases hc : cl' j with
  | true => exact (decide_eq_true (key.1 hc)).symm
  | false => exact (decide_eq_false (fun hlt => by rw [key.2 hlt] at hc; cases hc)).symm

theorem left_len (hd : Done rs (fun r => idxs (wsOf wl) r wl.length) Q' (fun _ => false) cl') (r : ByteArray) : (Q' r).length = cnt r wl - cnt r rs := by
  rw [hd.1 r, List.length_drop, idxs_len wl r wl.length (Nat.le_refl _), List.take_length]

theorem left_at (hd : Done rs (fun r => idxs (wsOf wl) r wl.length) Q' (fun _ => false) cl') {j : Nat} (h : j < wl.length) (hle : cnt (wsOf wl j) rs ≤ cnt (wsOf wl j) (wl.take j)) :
    (Q' (wsOf wl j))[cnt (wsOf wl j) (wl.take j) - cnt (wsOf wl j) rs]? = some j := by
  rw [hd.1, List.getElem?_drop, show cnt (wsOf wl j) rs + (cnt (wsOf wl j) (wl.take j) - cnt (wsOf wl j) rs) = cnt (wsOf wl j) (wl.take j) by omega]
  exact idxs_at h

theorem pos_lt {j : Nat} (h : j < wl.length) : cnt (wsOf wl j) (wl.take j) < cnt (wsOf wl j) wl := by
  have h1 := cnt_take_succ h (wsOf wl j)
  rw [if_pos rfl] at h1
  have h2 : cnt (wsOf wl j) wl = cnt (wsOf wl j) (wl.take (j + 1)) + cnt (wsOf wl j) (wl.drop (j + 1)) := by
    rw [← cnt_append, List.take_append_drop]
  omega

/-- The updates below j that are the first of their row, whose row has some left. -/
def firsts (wl rs : List ByteArray) (j : Nat) : List Nat := (List.range j).filter (fun i => decide (cnt (wsOf wl i) (wl.take i) = 0 ∧ cnt (wsOf wl i) rs < cnt (wsOf wl i) wl))

theorem firsts_succ (wl rs : List ByteArray) (j : Nat) : (firsts wl rs (j + 1)).length = (firsts wl rs j).length + if cnt (wsOf wl j) (wl.take j) = 0 ∧ cnt (wsOf wl j) rs < cnt (wsOf wl j) wl then 1 else 0 := by
  unfold firsts
  rw [List.range_succ, List.filter_append, List.length_append]
  by_cases h : cnt (wsOf wl j) (wl.take j) = 0 ∧ cnt (wsOf wl j) rs < cnt (wsOf wl j) wl
  · rw [if_pos h]; simp [h]
  · rw [if_neg h]; simp only [List.filter_cons, decide_eq_true_eq, if_neg h, List.filter_nil, List.length_nil]
theorem firsts_le (wl rs : List ByteArray) (j : Nat) : (firsts wl rs j).length ≤ j := by
  have := List.length_filter_le (fun i => decide (cnt (wsOf wl i) (wl.take i) = 0 ∧ cnt (wsOf wl i) rs < cnt (wsOf wl i) wl)) (List.range j)
  simpa [firsts] using this

theorem mem_firsts {j i : Nat} : i ∈ firsts wl rs j ↔ i < j ∧ cnt (wsOf wl i) (wl.take i) = 0 ∧ cnt (wsOf wl i) rs < cnt (wsOf wl i) wl := by simp [firsts]

/-- A later one of the same row is not the first. -/
theorem pos_of_earlier {i j : Nat} (hij : i < j) (hj : j < wl.length) (e : wsOf wl i = wsOf wl j) : 0 < cnt (wsOf wl j) (wl.take j) := by
  rw [← idxs_len wl _ j (by omega)]
  exact List.length_pos_of_mem (mem_idxs.2 ⟨hij, e⟩)

theorem firsts_count {nk : List ByteArray} (hn : nk.Nodup) (hm : ∀ r, r ∈ nk ↔ cnt r rs < cnt r wl) : nk.length = (firsts wl rs wl.length).length := by
  have hnd : ((firsts wl rs wl.length).map (wsOf wl)).Nodup := by
    rw [List.nodup_iff_pairwise_ne, List.pairwise_map]
    have hp : (firsts wl rs wl.length).Pairwise (· < ·) := (List.pairwise_lt_range).sublist (List.filter_sublist)
    refine List.Pairwise.imp_of_mem (fun {i j} hi hj hij e => ?_) hp
    have h1 := mem_firsts.1 hj
    have := pos_of_earlier hij h1.1 e
    omega
  have hmem : ∀ r, r ∈ nk ↔ r ∈ (firsts wl rs wl.length).map (wsOf wl) := by
    intro r
    rw [hm r, List.mem_map]
    constructor
    · intro h
      have hl := idxs_len wl r wl.length (Nat.le_refl _)
      rw [List.take_length] at hl
      cases hq : idxs (wsOf wl) r wl.length with
      | nil => rw [hq] at hl; simp at hl; omega
      | cons i t =>
        have hi : i ∈ idxs (wsOf wl) r wl.length := by rw [hq]; exact .head _
        obtain ⟨h1, h2⟩ := mem_idxs.1 hi
        subst h2
        have hat := idxs_at h1
        have h0 : (idxs (wsOf wl) (wsOf wl i) wl.length)[0]? = some i := by rw [hq]; rfl
        have := nodup_index (idxs_nodup (wsOf wl) (wsOf wl i) wl.length) hat h0
        exact ⟨i, mem_firsts.2 ⟨h1, this, h⟩, rfl⟩
    · rintro ⟨i, hi, rfl⟩
      exact (mem_firsts.1 hi).2.2
  have := ((List.perm_ext_iff_of_nodup hn hnd).2 hmem).length_eq
  simpa using this
end
end Go.Proofs.Qxb6612990a
