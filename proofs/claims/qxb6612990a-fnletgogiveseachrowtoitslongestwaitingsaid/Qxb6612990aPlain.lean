/-
  The plain law of the queues: counting, dropping, taking. No Go in sight.
-/
namespace Go.Proofs.Qxb6612990a

/-- How often k stands in r. -/
def cnt (k : ByteArray) : List ByteArray → Nat
  | [] => 0
  | x :: r => (if k = x then 1 else 0) + cnt k r

theorem cnt_append (k : ByteArray) : ∀ r s : List ByteArray, cnt k (r ++ s) = cnt k r + cnt k s
  | [], s => by simp [cnt]
  | x :: r, s => by simp [cnt, cnt_append k r s]; omega
theorem cnt_snoc (k : ByteArray) (r : List ByteArray) (x : ByteArray) : cnt k (r ++ [x]) = cnt k r + if k = x then 1 else 0 := by
  rw [cnt_append]; simp [cnt]
theorem cnt_le (k : ByteArray) : ∀ r : List ByteArray, cnt k r ≤ r.length
  | [] => Nat.le_refl _
  | x :: r => by
    have := cnt_le k r
    simp only [cnt, List.length_cons]
    split <;> omega

def upd (cl : Nat → Bool) (j : Nat) : Nat → Bool := fun i => if i = j then true else cl i

/-- What 'giveNext(k)' does to the queues and to the turns. -/
def stepQ (k : ByteArray) (Q Q' : ByteArray → List Nat) (cl cl' : Nat → Bool) : Prop :=
  (∀ k', k' ≠ k → Q' k' = Q k') ∧ ((Q k = [] ∧ Q' k = [] ∧ cl' = cl) ∨ ∃ j rest, Q k = j :: rest ∧ Q' k = rest ∧ cl' = upd cl j)

/-- What 'letGo(r)' does. -/
def Done (r : List ByteArray) (Q Q' : ByteArray → List Nat) (cl cl' : Nat → Bool) : Prop :=
  (∀ k, Q' k = (Q k).drop (cnt k r)) ∧ ∀ j, cl' j = true ↔ (cl j = true ∨ ∃ k, j ∈ (Q k).take (cnt k r))

theorem done_nil (Q : ByteArray → List Nat) (cl : Nat → Bool) : Done [] Q Q cl cl := ⟨fun k => by simp [cnt], fun j => by simp [cnt]⟩

theorem done_snoc {r : List ByteArray} {x : ByteArray} {Q Q' Q'' : ByteArray → List Nat} {cl cl' cl'' : Nat → Bool} (h : Done r Q Q' cl cl') (s : stepQ x Q' Q'' cl' cl'') : Done (r ++ [x]) Q Q'' cl cl'' := by
  obtain ⟨h1, h2⟩ := h
  obtain ⟨s1, s2⟩ := s
  have other : ∀ k, k ≠ x → cnt k (r ++ [x]) = cnt k r := fun k hk => by rw [cnt_snoc, if_neg hk]; rfl
  have same : cnt x (r ++ [x]) = cnt x r + 1 := by rw [cnt_snoc, if_pos rfl]
  have hx := h1 x
  rcases s2 with ⟨e1, e2, rfl⟩ | ⟨j, rest, e1, e2, rfl⟩
  · rw [e1] at hx
    have hl : (Q x).length ≤ cnt x r := by
      have := congrArg List.length hx
      simp at this
      omega
    refine ⟨fun k => ?_, fun i => ?_⟩
    · by_cases hk : k = x
      · subst hk; rw [e2, same, List.drop_of_length_le (by omega)]
      · rw [s1 k hk, h1 k, other k hk]
    · rw [h2 i]
      constructor
      · rintro (h | ⟨k, hk⟩)
        · exact Or.inl h
        · refine Or.inr ⟨k, ?_⟩
          by_cases e : k = x
          · subst e; rw [List.take_of_length_le (by omega)] at hk ⊢; exact hk
          · rw [other k e]; exact hk
      · rintro (h | ⟨k, hk⟩)
        · exact Or.inl h
        · refine Or.inr ⟨k, ?_⟩
          by_cases e : k = x
          · subst e; rw [List.take_of_length_le (by omega)] at hk ⊢; exact hk
          · rw [other k e] at hk; exact hk
  · rw [e1] at hx
    have hlt : cnt x r < (Q x).length := by
      rcases Nat.lt_or_ge (cnt x r) (Q x).length with h | h
      · exact h
      · rw [List.drop_of_length_le h] at hx; cases hx
    have hd := List.drop_eq_getElem_cons hlt
    rw [← hx, List.cons.injEq] at hd
    have ht : (Q x).take (cnt x r + 1) = (Q x).take (cnt x r) ++ [j] := by
      rw [List.take_succ_eq_append_getElem hlt, ← hd.1]
    refine ⟨fun k => ?_, fun i => ?_⟩
    · by_cases hk : k = x
      · subst hk; rw [e2, same]; exact hd.2
      · rw [s1 k hk, h1 k, other k hk]
    · constructor
      · intro h
        by_cases e : i = j
        · subst e
          exact Or.inr ⟨x, by rw [same, ht]; simp⟩
        · simp only [upd, if_neg e] at h
          rcases (h2 i).1 h with h | ⟨k, hk⟩
          · exact Or.inl h
          · refine Or.inr ⟨k, ?_⟩
            by_cases e' : k = x
            · subst e'; rw [same, ht]; exact List.mem_append_left _ hk
            · rw [other k e']; exact hk
      · intro h
        by_cases e : i = j
        · simp [upd, e]
        · simp only [upd, if_neg e]
          rw [h2 i]
          rcases h with h | ⟨k, hk⟩
          · exact Or.inl h
          · refine Or.inr ⟨k, ?_⟩
            by_cases e' : k = x
            · subst e'
              rw [same, ht, List.mem_append] at hk
              rcases hk with hk | hk
              · exact hk
              · simp at hk; exact absurd hk e
            · rw [other k e'] at hk; exact hk

/-- The places below k at which r stands. -/
def idxs (ws : Nat → ByteArray) (r : ByteArray) (k : Nat) : List Nat := (List.range k).filter (fun j => decide (ws j = r))

theorem idxs_succ (ws : Nat → ByteArray) (r : ByteArray) (k : Nat) : idxs ws r (k + 1) = idxs ws r k ++ if ws k = r then [k] else [] := by
  unfold idxs
  rw [List.range_succ, List.filter_append]
  by_cases h : ws k = r <;> simp [h]
theorem mem_idxs {ws : Nat → ByteArray} {r : ByteArray} {k j : Nat} : j ∈ idxs ws r k ↔ j < k ∧ ws j = r := by simp [idxs]
theorem idxs_nodup (ws : Nat → ByteArray) (r : ByteArray) (k : Nat) : (idxs ws r k).Nodup := (List.filter_sublist (l := List.range k)).nodup List.nodup_range
theorem idxs_length_le (ws : Nat → ByteArray) (r : ByteArray) (k : Nat) : (idxs ws r k).length ≤ k := by
  have := List.length_filter_le (fun j => decide (ws j = r)) (List.range k)
  simpa [idxs] using this
end Go.Proofs.Qxb6612990a
