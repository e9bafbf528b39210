namespace Go.Proofs.Qxb6628176a

/-- The places that place q leads to directly. -/
def rowAt (rows : List (List Nat)) (q : Nat) : List Nat := rows.getD q []

/-- A chain of k + 1 steps leads from p to q. -/
def Path (rows : List (List Nat)) : Nat → Nat → Nat → Prop
  | 0, p, q => q ∈ rowAt rows p
  | k + 1, p, q => ∃ s, s ∈ rowAt rows p ∧ Path rows k s q

def Reach (rows : List (List Nat)) (p q : Nat) : Prop := ∃ k, Path rows k p q

theorem reach_one {rows : List (List Nat)} {p q : Nat} (h : q ∈ rowAt rows p) : Reach rows p q := ⟨0, h⟩

theorem reach_cons {rows : List (List Nat)} {p s q : Nat} (h : s ∈ rowAt rows p) (k : Reach rows s q) : Reach rows p q := by
  obtain ⟨n, hn⟩ := k
  exact ⟨n + 1, s, h, hn⟩

theorem path_snoc {rows : List (List Nat)} : ∀ (k p q s : Nat), Path rows k p q → s ∈ rowAt rows q → Path rows (k + 1) p s
  | 0, _, q, _, h, hs => ⟨q, h, hs⟩
  | k + 1, _, q, s, ⟨t, ht, hp⟩, hs => ⟨t, ht, path_snoc k t q s hp hs⟩

theorem reach_snoc {rows : List (List Nat)} {p q s : Nat} (h : Reach rows p q) (hs : s ∈ rowAt rows q) : Reach rows p s := by
  obtain ⟨n, hn⟩ := h
  exact ⟨n + 1, path_snoc n p q s hn hs⟩

/-- The law: what is reached is the direct ones and what each of them reaches. -/
theorem reach_union (rows : List (List Nat)) (p q : Nat) : Reach rows p q ↔ ∃ s, s ∈ rowAt rows p ∧ (q = s ∨ Reach rows s q) := by
  constructor
  · rintro ⟨k, h⟩
    cases k with
    | zero => exact ⟨q, h, .inl rfl⟩
    | succ k =>
      obtain ⟨s, hs, hp⟩ := h
      exact ⟨s, hs, .inr ⟨k, hp⟩⟩
  · rintro ⟨s, hs, rfl | h⟩
    · exact reach_one hs
    · exact reach_cons hs h

/-- What the search keeps: which places have been met, which are still to be looked at. -/
structure Inv (rows : List (List Nat)) (n p : Nat) (seen : List Bool) (st : List Nat) : Prop where
  len : seen.length = n
  stk : ∀ x, x ∈ st → Reach rows p x ∧ x < n
  met : ∀ q, seen[q]? = some true → Reach rows p q
  first : ∀ s, s ∈ rowAt rows p → seen[s]? = some true ∨ s ∈ st
  next : ∀ q, seen[q]? = some true → ∀ s, s ∈ rowAt rows q → seen[s]? = some true ∨ s ∈ st

/-- Every place that is led to is a place. -/
def Within (rows : List (List Nat)) (n : Nat) : Prop := ∀ q x, x ∈ rowAt rows q → x < n

theorem inv_start (rows : List (List Nat)) (n p : Nat) (hw : Within rows n) : Inv rows n p (List.replicate n false) (rowAt rows p) where
  len := by simp
  stk := fun x hx => ⟨reach_one hx, hw p x hx⟩
  met := fun q h => by
    rw [List.getElem?_replicate] at h
    split at h <;> simp at h
  first := fun s hs => .inr hs
  next := fun q h => by
    rw [List.getElem?_replicate] at h
    split at h <;> simp at h

theorem inv_old {rows : List (List Nat)} {n p : Nat} {seen : List Bool} {st : List Nat} {q : Nat} (h : Inv rows n p seen (st ++ [q])) (hq : seen[q]? = some true) : Inv rows n p seen st where
  len := h.len
  stk := fun x hx => h.stk x (by simp [hx])
  met := h.met
  first := fun s hs => by
    rcases h.first s hs with h1 | h1
    · exact .inl h1
    · rcases List.mem_append.1 h1 with h2 | h2
      · exact .inr h2
      · rw [List.mem_singleton.1 h2]; exact .inl hq
  next := fun t ht s hs => by
    rcases h.next t ht s hs with h1 | h1
    · exact .inl h1
    · rcases List.mem_append.1 h1 with h2 | h2
      · exact .inr h2
      · rw [List.mem_singleton.1 h2]; exact .inl hq

theorem set_true {seen : List Bool} {q s : Nat} (h : seen[s]? = some true) : (seen.set q true)[s]? = some true := by
  rw [List.getElem?_set]
  have hs := (List.getElem?_eq_some_iff.1 h).1
  split
  · rename_i e; subst e; simp [hs]
  · exact h

theorem set_true_inv {seen : List Bool} {q s : Nat} (h : (seen.set q true)[s]? = some true) : seen[s]? = some true ∨ s = q := by
  rw [List.getElem?_set] at h
  split at h
  · rename_i e; exact .inr e.symm
  · exact .inl h

theorem set_same {seen : List Bool} {q : Nat} (h : q < seen.length) : (seen.set q true)[q]? = some true := by
  rw [List.getElem?_set]; simp [h]

theorem inv_new {rows : List (List Nat)} {n p : Nat} {seen : List Bool} {st : List Nat} {q : Nat} (hw : Within rows n) (h : Inv rows n p seen (st ++ [q])) : Inv rows n p (seen.set q true) (st ++ rowAt rows q) where
  len := by rw [List.length_set]; exact h.len
  stk := fun x hx => by
    rcases List.mem_append.1 hx with h1 | h1
    · exact h.stk x (by simp [h1])
    · exact ⟨reach_snoc (h.stk q (by simp)).1 h1, hw q x h1⟩
  met := fun t ht => by
    rcases set_true_inv ht with h1 | h1
    · exact h.met t h1
    · subst h1; exact (h.stk t (by simp)).1
  first := fun s hs => by
    rcases h.first s hs with h1 | h1
    · exact .inl (set_true h1)
    · rcases List.mem_append.1 h1 with h2 | h2
      · exact .inr (by simp [h2])
      · rw [List.mem_singleton.1 h2]
        exact .inl (set_same (by rw [h.len]; exact (h.stk q (by simp)).2))
  next := fun t ht s hs => by
    rcases set_true_inv ht with h0 | h0
    · rcases h.next t h0 s hs with h1 | h1
      · exact .inl (set_true h1)
      · rcases List.mem_append.1 h1 with h2 | h2
        · exact .inr (by simp [h2])
        · rw [List.mem_singleton.1 h2]
          exact .inl (set_same (by rw [h.len]; exact (h.stk q (by simp)).2))
    · subst h0; exact .inr (by simp [hs])

theorem inv_path {rows : List (List Nat)} {n p : Nat} {seen : List Bool} (h : Inv rows n p seen []) : ∀ (k t q : Nat), (t = p ∨ seen[t]? = some true) → Path rows k t q → seen[q]? = some true
  | 0, t, q, ht, hp => by
    rcases ht with rfl | ht
    · rcases h.first q hp with h1 | h1
      · exact h1
      · cases h1
    · rcases h.next t ht q hp with h1 | h1
      · exact h1
      · cases h1
  | k + 1, t, q, ht, ⟨s, hs, hp⟩ => by
    refine inv_path h k s q (.inr ?_) hp
    rcases ht with rfl | ht
    · rcases h.first s hs with h1 | h1
      · exact h1
      · cases h1
    · rcases h.next t ht s hs with h1 | h1
      · exact h1
      · cases h1

/-- What the marks of a search say. -/
def Marks (rows : List (List Nat)) (n p : Nat) (seen : List Bool) : Prop := seen.length = n ∧ ∀ q, seen[q]? = some true ↔ Reach rows p q

theorem inv_end {rows : List (List Nat)} {n p : Nat} {seen : List Bool} (h : Inv rows n p seen []) : Marks rows n p seen :=
  ⟨h.len, fun q => ⟨h.met q, fun ⟨k, hk⟩ => inv_path h k p q (.inl rfl) hk⟩⟩

/-- How far the search has to go. -/
def left (M : Nat) (seen : List Bool) (st : List Nat) : Nat := seen.count false * (M + 1) + st.length

theorem left_old (M : Nat) (seen : List Bool) (st : List Nat) (q : Nat) : left M seen st + 1 = left M seen (st ++ [q]) := by
  simp [left]; omega

theorem left_new (M : Nat) (seen : List Bool) (st r : List Nat) (q : Nat) (hr : r.length ≤ M) (hq : seen[q]? = some false) : left M (seen.set q true) (st ++ r) + 1 ≤ left M seen (st ++ [q]) := by
  obtain ⟨hl, he⟩ := List.getElem?_eq_some_iff.1 hq
  have hc : (seen.set q true).count false + 1 = seen.count false := by
    rw [List.count_set hl]
    have : 0 < seen.count false := List.count_pos_iff.2 (by rw [← he]; exact List.getElem_mem hl)
    simp [he]
    omega
  have e : seen.count false * (M + 1) = (seen.set q true).count false * (M + 1) + (M + 1) := by rw [← hc, Nat.add_mul]; omega
  simp [left]
  omega

/-- The places that are marked, in order. -/
def pos (seen : List Bool) : Nat → List Nat
  | 0 => []
  | k + 1 => if seen.getD k false then pos seen k ++ [k] else pos seen k

theorem pos_mem (seen : List Bool) : ∀ k q, q ∈ pos seen k ↔ q < k ∧ seen.getD q false = true
  | 0, q => by simp [pos]
  | k + 1, q => by
    have ih := pos_mem seen k q
    unfold pos
    split
    · rename_i h
      simp only [List.mem_append, ih, List.mem_singleton]
      constructor
      · rintro (h1 | rfl)
        · exact ⟨by omega, h1.2⟩
        · exact ⟨by omega, h⟩
      · rintro ⟨h1, h2⟩
        by_cases e : q = k
        · exact .inr e
        · exact .inl ⟨by omega, h2⟩
    · rename_i h
      rw [ih]
      constructor
      · rintro ⟨h1, h2⟩; exact ⟨by omega, h2⟩
      · rintro ⟨h1, h2⟩
        refine ⟨?_, h2⟩
        refine Nat.lt_of_le_of_ne (by omega) fun e => ?_
        subst e
        exact h h2

theorem pos_le (seen : List Bool) : ∀ k, (pos seen k).length ≤ k
  | 0 => by simp [pos]
  | k + 1 => by
    have ih := pos_le seen k
    unfold pos
    split <;> simp <;> omega

/-- The first places stay the first. -/
theorem pos_first (seen : List Bool) : ∀ k m, k ≤ m → ∃ r, pos seen m = pos seen k ++ r
  | k, 0, h => by
    have : k = 0 := by omega
    subst this; exact ⟨[], by simp⟩
  | k, m + 1, h => by
    by_cases e : k = m + 1
    · subst e; exact ⟨[], by simp⟩
    · obtain ⟨r, hr⟩ := pos_first seen k m (by omega)
      have e2 : pos seen (m + 1) = if seen.getD m false then pos seen m ++ [m] else pos seen m := rfl
      rw [e2, hr]
      split
      · exact ⟨r ++ [m], by simp⟩
      · exact ⟨r, rfl⟩

theorem pos_at (seen : List Bool) (q n : Nat) (hq : q < n) (h : seen.getD q false = true) : (pos seen n)[(pos seen q).length]? = some q := by
  obtain ⟨r, hr⟩ := pos_first seen (q + 1) n (by omega)
  have e : pos seen (q + 1) = pos seen q ++ [q] := by rw [pos, if_pos h]
  rw [hr, e]
  simp

theorem pos_congr (a b : List Bool) : ∀ n, (∀ q, q < n → a.getD q false = b.getD q false) → pos a n = pos b n
  | 0, _ => rfl
  | n + 1, h => by
    have ih := pos_congr a b n (fun q hq => h q (by omega))
    unfold pos
    rw [ih, h n (by omega)]

end Go.Proofs.Qxb6628176a
