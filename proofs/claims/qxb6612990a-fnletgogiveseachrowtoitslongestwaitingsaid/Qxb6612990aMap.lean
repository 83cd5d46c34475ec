/-
  A map keyed by strings whose block is known entry by entry: what a look-up, a store and a delete do to it.
-/
import Derived.MapKept
import Derived.ChangeMaps5
namespace Go.Proofs.Qxb6612990a
open Go.MapKept

/-- An entry: the key, the value, the stamp; and (ghost) the queue that the value stands for. -/
structure Ent where
  key : ByteArray
  val : Value
  born : Nat
  q : List Nat

def Ent.toE (x : Ent) : MapEntry := { key := .string x.key, val := x.val, born := x.born }
def toEs (X : List Ent) : Array MapEntry := (X.map Ent.toE).toArray

def valAt (k : ByteArray) (z : Value) : List Ent → Value
  | [] => z
  | x :: xs => if k == x.key then x.val else valAt k z xs
def hasK (k : ByteArray) : List Ent → Bool
  | [] => false
  | x :: xs => if k == x.key then true else hasK k xs
def Qf (k : ByteArray) : List Ent → List Nat
  | [] => []
  | x :: xs => if k == x.key then x.q else Qf k xs
def putE (k : ByteArray) (v : Value) (q : List Nat) (c : Nat) : List Ent → List Ent
  | [] => [⟨k, v, c, q⟩]
  | x :: xs => if k == x.key then ⟨x.key, v, x.born, q⟩ :: xs else x :: putE k v q c xs
def delE (k : ByteArray) : List Ent → List Ent
  | [] => []
  | x :: xs => if k == x.key then xs else x :: delE k xs
def findAt (k : ByteArray) : List Ent → Option Nat
  | [] => none
  | x :: xs => if k == x.key then some 0 else (findAt k xs).map (· + 1)

theorem beq_iff {a b : ByteArray} : (a == b) = true ↔ a = b := bytes_beq a b
theorem beq_self (a : ByteArray) : (a == a) = true := beq_iff.2 rfl
theorem beq_ff {a b : ByteArray} : (a == b) = false ↔ a ≠ b := by
  rw [← Bool.not_eq_true, ne_eq, not_congr (bytes_beq a b)]

theorem findNow_ents (k : ByteArray) (z : Value) : ∀ (X : List Ent) (i : Nat),
    Instr.findNow .string (.string k) (X.map Ent.toE) i = some ((findAt k X).map fun j => (i + j, valAt k z X))
  | [], _ => rfl
  | x :: xs, i => by
    simp only [List.map_cons, Instr.findNow, Ent.toE, Instr.sameNow]
    cases h : k == x.key with
    | true => simp [findAt, valAt, h]
    | false =>
      have ih := findNow_ents k z xs (i + 1)
      simp only [ih, findAt, h, valAt]
      cases findAt k xs <;> simp
      omega

theorem valAt_none {k : ByteArray} {z : Value} : ∀ {X : List Ent}, findAt k X = none → valAt k z X = z ∧ hasK k X = false
  | [], _ => ⟨rfl, rfl⟩
  | x :: xs, h => by
    cases hk : k == x.key with
    | true => simp [findAt, hk] at h
    | false =>
      simp only [findAt, hk, Bool.false_eq_true, if_false, Option.map_eq_none_iff] at h
      simpa [valAt, hasK, hk] using valAt_none (z := z) h
theorem hasK_some {k : ByteArray} : ∀ {X : List Ent} {j : Nat}, findAt k X = some j → hasK k X = true
  | [], _, h => by simp [findAt] at h
  | x :: xs, j, h => by
    cases hk : k == x.key with
    | true => simp [hasK, hk]
    | false =>
      simp only [findAt, hk, Bool.false_eq_true, if_false, Option.map_eq_some_iff] at h
      obtain ⟨j', h', _⟩ := h
      simpa [hasK, hk] using hasK_some h'

section
variable {P : Program} {w : World} {t kt et b clock : Nat} {X : List Ent}

theorem run_lookup_ents (hm : P.underlying t = some (.map kt et)) (hd : P.underlying kt = some .string) {z : Value} (hz : (zeroValue et).run P w = .ok z w)
    (hb : w.heap[b]? = some (.map (toEs X) clock)) (k : ByteArray) (ok : Bool) :
    (Instr.lookup t (.map (some b)) (.string k) ok).run P w = .ok (if ok then .tuple #[valAt k z X, .bool (hasK k X)] else valAt k z X) w := by
  have hk : IsKey .string (.string k) := trivial
  have hf := findNow_ents k z X 0
  cases h : findAt k X with
  | none =>
    obtain ⟨h1, h2⟩ := valAt_none (z := z) h
    rw [h] at hf
    simp only [toEs] at hb
    simp [Instr.lookup, run_underlying hm, MapKept.run_getObj_map hb, run_checkKey hd hk, run_findKey hd hf, hz, Result.andThen, h1, h2]
  | some j =>
    have h2 := hasK_some h
    rw [h] at hf
    simp only [toEs] at hb
    simp [Instr.lookup, run_underlying hm, MapKept.run_getObj_map hb, run_checkKey hd hk, run_findKey hd hf, Result.andThen, h2]

theorem putE_none {k : ByteArray} {v : Value} {q : List Nat} {c : Nat} : ∀ {X : List Ent}, findAt k X = none → putE k v q c X = X ++ [⟨k, v, c, q⟩]
  | [], _ => rfl
  | x :: xs, h => by
    cases hk : k == x.key with
    | true => simp [findAt, hk] at h
    | false =>
      simp only [findAt, hk, Bool.false_eq_true, if_false, Option.map_eq_none_iff] at h
      simp [putE, hk, putE_none h]
theorem putE_some {k : ByteArray} {v : Value} {q : List Nat} {c : Nat} : ∀ {X : List Ent} {j : Nat}, findAt k X = some j →
    (X.map Ent.toE).modify j (fun e => { e with key := .string k, val := v }) = (putE k v q c X).map Ent.toE ∧ ((X.map Ent.toE)[j]?).map (·.key) = some (.string k)
  | [], _, h => by simp [findAt] at h
  | x :: xs, j, h => by
    cases hk : k == x.key with
    | true =>
      have e := beq_iff.1 hk
      simp only [findAt, hk, if_true, Option.some.injEq] at h
      subst h
      subst e
      simp [putE, beq_self, Ent.toE]
    | false =>
      simp only [findAt, hk, Bool.false_eq_true, if_false, Option.map_eq_some_iff] at h
      obtain ⟨j', h', rfl⟩ := h
      obtain ⟨i1, i2⟩ := putE_some (v := v) (q := q) (c := c) h'
      exact ⟨by simp [putE, hk, ← i1], by simpa using i2⟩
theorem delE_none {k : ByteArray} : ∀ {X : List Ent}, findAt k X = none → delE k X = X
  | [], _ => rfl
  | x :: xs, h => by
    cases hk : k == x.key with
    | true => simp [findAt, hk] at h
    | false =>
      simp only [findAt, hk, Bool.false_eq_true, if_false, Option.map_eq_none_iff] at h
      simp [delE, hk, delE_none h]
theorem delE_some {k : ByteArray} : ∀ {X : List Ent} {j : Nat}, findAt k X = some j → (X.map Ent.toE).eraseIdx j = (delE k X).map Ent.toE ∧ j < X.length
  | [], _, h => by simp [findAt] at h
  | x :: xs, j, h => by
    cases hk : k == x.key with
    | true =>
      simp only [findAt, hk, if_true, Option.some.injEq] at h
      subst h
      simp [delE, hk]
    | false =>
      simp only [findAt, hk, Bool.false_eq_true, if_false, Option.map_eq_some_iff] at h
      obtain ⟨j', h', rfl⟩ := h
      obtain ⟨i1, i2⟩ := delE_some h'
      exact ⟨by simp [delE, hk, ← i1], by simpa using i2⟩

/-- The map's clock behind a store. -/
def nclock (k : ByteArray) (X : List Ent) (c : Nat) : Nat := match findAt k X with | none => c + 1 | some _ => c

/-- The world with block b turned. -/
def setB (w : World) (b : Nat) (o : Obj) : World := { w with heap := w.heap.setIfInBounds b o }

theorem run_mapUpdate_ents (hm : P.underlying t = some (.map kt et)) (hd : P.underlying kt = some .string)
    (hb : w.heap[b]? = some (.map (toEs X) clock)) (k : ByteArray) (v : Value) (q : List Nat) :
    (Instr.mapUpdate t (.map (some b)) (.string k) v).run P w = .ok () (setB w b (.map (toEs (putE k v q clock X)) (nclock k X clock))) := by
  have hk : IsKey .string (.string k) := trivial
  have hf := findNow_ents k .nilFunc X 0
  cases h : findAt k X with
  | none =>
    rw [h] at hf
    rw [putE_none h, show nclock k X clock = clock + 1 by simp [nclock, h]]
    simp only [toEs] at hb
    simp [Instr.mapUpdate, run_underlying hm, MapKept.run_getObj_map hb, run_checkKey hd hk, run_findKey hd hf, MapKept.run_setObj_map _ hb, Result.andThen, setB, toEs, Ent.toE]
  | some j =>
    rw [h] at hf
    obtain ⟨h1, h2⟩ := putE_some (v := v) (q := q) (c := clock) h
    rw [show nclock k X clock = clock by simp [nclock, h]]
    simp only [toEs] at hb
    have e1 : (X.map Ent.toE).toArray[j]?.map (·.key) = some (.string k) := by simpa using h2
    simp only [Instr.mapUpdate, Sem.run_bind, run_underlying hm, MapKept.run_getObj_map hb, run_checkKey hd hk, run_findKey hd hf, Result.andThen, Option.map_some, Nat.zero_add, e1, Option.getD_some, run_keyThatStays hk, MapKept.run_setObj_map _ hb]
    simp only [setB, toEs, ← h1, List.modify_toArray]

theorem run_delete_ents {kt' ty : TypeId} (hm : P.underlying t = some (.map kt et)) (hd : P.underlying kt = some .string)
    (hb : w.heap[b]? = some (.map (toEs X) clock)) (k : ByteArray) :
    (Builtin.delete_ #[t, kt'] ty #[.map (some b), .string k]).run P w = .ok (.tuple #[]) (setB w b (.map (toEs (delE k X)) clock)) := by
  have hk : IsKey .string (.string k) := trivial
  have hf := findNow_ents k .nilFunc X 0
  cases h : findAt k X with
  | none =>
    rw [h] at hf
    rw [delE_none h]
    simp only [toEs] at hb
    simp [Builtin.delete_, run_underlying hm, MapKept.run_getObj_map hb, run_checkKey hd hk, run_findKey hd hf, MapKept.run_setObj_map _ hb, Result.andThen, setB, toEs]
  | some j =>
    rw [h] at hf
    obtain ⟨h1, h2⟩ := delE_some h
    simp only [toEs] at hb
    simp [Builtin.delete_, run_underlying hm, MapKept.run_getObj_map hb, run_checkKey hd hk, run_findKey hd hf, MapKept.run_setObj_map _ hb, Result.andThen, setB, toEs, ← h1, Array.eraseIdxIfInBounds, h2]

theorem heap_setB_same {o : Obj} (h : b < w.heap.size) : (setB w b o).heap[b]? = some o := by simp [setB, h]
theorem heap_setB_other {o : Obj} {k : Nat} (h : k ≠ b) : (setB w b o).heap[k]? = w.heap[k]? := by simp [setB, Ne.symm h]
end

/-! ### the plain facts -/
def keys (X : List Ent) : List ByteArray := X.map (·.key)

theorem Qf_cons (k : ByteArray) (x : Ent) (xs : List Ent) : (k = x.key → Qf k (x :: xs) = x.q) ∧ (k ≠ x.key → Qf k (x :: xs) = Qf k xs) :=
  ⟨fun e => by simp [Qf, beq_iff.2 e], fun e => by simp [Qf, beq_ff.2 e]⟩
theorem put_cons (k : ByteArray) (v : Value) (q : List Nat) (c : Nat) (x : Ent) (xs : List Ent) : (k = x.key → putE k v q c (x :: xs) = ⟨x.key, v, x.born, q⟩ :: xs) ∧ (k ≠ x.key → putE k v q c (x :: xs) = x :: putE k v q c xs) :=
  ⟨fun e => by simp [putE, beq_iff.2 e], fun e => by simp [putE, beq_ff.2 e]⟩
theorem del_cons (k : ByteArray) (x : Ent) (xs : List Ent) : (k = x.key → delE k (x :: xs) = xs) ∧ (k ≠ x.key → delE k (x :: xs) = x :: delE k xs) :=
  ⟨fun e => by simp [delE, beq_iff.2 e], fun e => by simp [delE, beq_ff.2 e]⟩

theorem Qf_put_same (k : ByteArray) (v : Value) (q : List Nat) (c : Nat) : ∀ X : List Ent, Qf k (putE k v q c X) = q
  | [] => by simp [putE, Qf, beq_self]
  | x :: xs => by
    by_cases h : k = x.key
    · rw [(put_cons k v q c x xs).1 h]; exact (Qf_cons k _ _).1 h
    · rw [(put_cons k v q c x xs).2 h, (Qf_cons k _ _).2 h]; exact Qf_put_same k v q c xs
theorem Qf_put_other {k k' : ByteArray} (hne : k' ≠ k) (v : Value) (q : List Nat) (c : Nat) : ∀ X : List Ent, Qf k' (putE k v q c X) = Qf k' X
  | [] => by simp [putE, Qf, beq_ff.2 hne]
  | x :: xs => by
    by_cases h : k = x.key
    · rw [(put_cons k v q c x xs).1 h, (Qf_cons k' _ _).2 (by rw [← h]; exact hne), (Qf_cons k' _ _).2 (by rw [← h]; exact hne)]
    · rw [(put_cons k v q c x xs).2 h]
      by_cases h' : k' = x.key
      · rw [(Qf_cons k' _ _).1 h', (Qf_cons k' _ _).1 h']
      · rw [(Qf_cons k' _ _).2 h', (Qf_cons k' _ _).2 h']; exact Qf_put_other hne v q c xs

theorem Qf_of_not_mem {k : ByteArray} : ∀ {X : List Ent}, k ∉ keys X → Qf k X = []
  | [], _ => rfl
  | x :: xs, h => by
    simp only [keys, List.map_cons, List.mem_cons, not_or] at h
    rw [(Qf_cons k _ _).2 h.1]
    exact Qf_of_not_mem h.2

theorem Qf_del_same (k : ByteArray) : ∀ X : List Ent, (keys X).Nodup → Qf k (delE k X) = []
  | [], _ => rfl
  | x :: xs, hn => by
    simp only [keys, List.map_cons, List.nodup_cons] at hn
    by_cases h : k = x.key
    · rw [(del_cons k x xs).1 h, h]; exact Qf_of_not_mem hn.1
    · rw [(del_cons k x xs).2 h, (Qf_cons k _ _).2 h]; exact Qf_del_same k xs hn.2
theorem Qf_del_other {k k' : ByteArray} (hne : k' ≠ k) : ∀ X : List Ent, Qf k' (delE k X) = Qf k' X
  | [] => rfl
  | x :: xs => by
    by_cases h : k = x.key
    · rw [(del_cons k x xs).1 h, (Qf_cons k' _ _).2 (by rw [← h]; exact hne)]
    · rw [(del_cons k x xs).2 h]
      by_cases h' : k' = x.key
      · rw [(Qf_cons k' _ _).1 h', (Qf_cons k' _ _).1 h']
      · rw [(Qf_cons k' _ _).2 h', (Qf_cons k' _ _).2 h']; exact Qf_del_other hne xs

theorem keys_put (k : ByteArray) (v : Value) (q : List Nat) (c : Nat) : ∀ X : List Ent, (k ∈ keys X → keys (putE k v q c X) = keys X) ∧ (k ∉ keys X → keys (putE k v q c X) = keys X ++ [k])
  | [] => by simp [putE, keys]
  | x :: xs => by
    obtain ⟨i1, i2⟩ := keys_put k v q c xs
    simp only [keys] at i1 i2
    by_cases h : k = x.key
    · rw [(put_cons k v q c x xs).1 h]
      exact ⟨fun _ => rfl, fun hn => absurd (by simp [keys, h]) hn⟩
    · rw [(put_cons k v q c x xs).2 h]
      simp only [keys, List.map_cons, List.mem_cons, h, false_or, List.cons_append, List.cons.injEq, true_and]
      exact ⟨i1, i2⟩

theorem nodup_put {k : ByteArray} {v : Value} {q : List Nat} {c : Nat} {X : List Ent} (h : (keys X).Nodup) : (keys (putE k v q c X)).Nodup := by
  by_cases hm : k ∈ keys X
  · rw [(keys_put k v q c X).1 hm]; exact h
  · rw [(keys_put k v q c X).2 hm, List.nodup_append]
    exact ⟨h, by simp, fun a ha b hb => by simp at hb; subst hb; exact fun e => hm (e ▸ ha)⟩

theorem keys_del_sublist (k : ByteArray) : ∀ X : List Ent, (keys (delE k X)).Sublist (keys X)
  | [] => List.Sublist.refl _
  | x :: xs => by
    by_cases h : k = x.key
    · rw [(del_cons k x xs).1 h]; exact List.sublist_cons_self _ _
    · rw [(del_cons k x xs).2 h]; exact (keys_del_sublist k xs).cons_cons _
theorem nodup_del {k : ByteArray} {X : List Ent} (h : (keys X).Nodup) : (keys (delE k X)).Nodup := (keys_del_sublist k X).nodup h

theorem mem_put {k : ByteArray} {v : Value} {q : List Nat} {c : Nat} : ∀ {X : List Ent}, (keys X).Nodup → ∀ {y : Ent}, y ∈ putE k v q c X → (y ∈ X ∧ y.key ≠ k) ∨ (y.key = k ∧ y.val = v ∧ y.q = q)
  | [], _, y, h => by simp [putE] at h; subst h; exact Or.inr ⟨rfl, rfl, rfl⟩
  | x :: xs, hn, y, h => by
    simp only [keys, List.map_cons, List.nodup_cons, List.mem_map, not_exists, not_and] at hn
    by_cases hk : k = x.key
    · rw [(put_cons k v q c x xs).1 hk, List.mem_cons] at h
      rcases h with rfl | h
      · exact Or.inr ⟨hk.symm, rfl, rfl⟩
      · exact Or.inl ⟨.tail _ h, by rw [hk]; exact hn.1 y h⟩
    · rw [(put_cons k v q c x xs).2 hk, List.mem_cons] at h
      rcases h with rfl | h
      · exact Or.inl ⟨.head _, fun e => hk e.symm⟩
      · rcases mem_put hn.2 h with ⟨h1, h2⟩ | h1
        · exact Or.inl ⟨.tail _ h1, h2⟩
        · exact Or.inr h1

theorem mem_del {k : ByteArray} : ∀ {X : List Ent}, (keys X).Nodup → ∀ {y : Ent}, y ∈ delE k X → y ∈ X ∧ y.key ≠ k
  | [], _, y, h => by simp [delE] at h
  | x :: xs, hn, y, h => by
    simp only [keys, List.map_cons, List.nodup_cons, List.mem_map, not_exists, not_and] at hn
    by_cases hk : k = x.key
    · rw [(del_cons k x xs).1 hk] at h
      exact ⟨.tail _ h, by rw [hk]; exact hn.1 y h⟩
    · rw [(del_cons k x xs).2 hk, List.mem_cons] at h
      rcases h with rfl | h
      · exact ⟨.head _, fun e => hk e.symm⟩
      · obtain ⟨h1, h2⟩ := mem_del hn.2 h
        exact ⟨.tail _ h1, h2⟩

/-- At a key that is there: its entry. At one that is not: nothing. -/
theorem at_key (k : ByteArray) (z : Value) : ∀ X : List Ent, (∃ x ∈ X, x.key = k ∧ valAt k z X = x.val ∧ Qf k X = x.q ∧ hasK k X = true) ∨ (k ∉ keys X ∧ valAt k z X = z ∧ Qf k X = [] ∧ hasK k X = false)
  | [] => Or.inr ⟨by simp [keys], rfl, rfl, rfl⟩
  | x :: xs => by
    cases hk : k == x.key with
    | true => exact Or.inl ⟨x, .head _, (beq_iff.1 hk).symm, by simp [valAt, hk], by simp [Qf, hk], by simp [hasK, hk]⟩
    | false =>
      have ne := beq_ff.1 hk
      rcases at_key k z xs with ⟨y, h1, h2, h3, h4, h5⟩ | ⟨h1, h2, h3, h4⟩
      · exact Or.inl ⟨y, .tail _ h1, h2, by simp [valAt, hk, h3], by simp [Qf, hk, h4], by simp [hasK, hk, h5]⟩
      · exact Or.inr ⟨by simpa [keys, ne] using h1, by simp [valAt, hk, h2], by simp [Qf, hk, h3], by simp [hasK, hk, h4]⟩
theorem Qf_mem {x : Ent} : ∀ {X : List Ent}, (keys X).Nodup → x ∈ X → Qf x.key X = x.q
  | [], _, h => by cases h
  | y :: ys, hn, h => by
    simp only [keys, List.map_cons, List.nodup_cons, List.mem_map, not_exists, not_and] at hn
    rcases List.mem_cons.1 h with rfl | h
    · exact (Qf_cons _ _ _).1 rfl
    · rw [(Qf_cons _ _ _).2 (hn.1 x h)]
      exact Qf_mem hn.2 h
theorem mem_keys {x : Ent} {X : List Ent} (h : x ∈ X) : x.key ∈ keys X := List.mem_map_of_mem h
end Go.Proofs.Qxb6612990a
