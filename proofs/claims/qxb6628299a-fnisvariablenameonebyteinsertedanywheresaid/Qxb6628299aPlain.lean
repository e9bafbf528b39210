namespace Go.Proofs.Qxb6628299a

/-- A byte that may open a name. -/
def fstB (c : UInt8) : Bool := decide (c.toNat = 95 ∨ (97 ≤ c.toNat ∧ c.toNat ≤ 122) ∨ (65 ≤ c.toNat ∧ c.toNat ≤ 90))
/-- A byte that may go on in one. -/
def folB (c : UInt8) : Bool := decide (c.toNat = 95 ∨ (97 ≤ c.toNat ∧ c.toNat ≤ 122) ∨ (65 ≤ c.toNat ∧ c.toNat ≤ 90) ∨ (48 ≤ c.toNat ∧ c.toNat ≤ 57))
/-- The byte at place j. -/
def okB (j : Nat) (c : UInt8) : Bool := if j = 0 then fstB c else folB c
/-- What 'IsVariableName' answers. -/
def isVar : List UInt8 → Bool
  | [] => false
  | c :: l => fstB c && l.all folB

theorem fol_of_fst (c : UInt8) (h : fstB c = true) : folB c = true := by
  simp only [fstB, folB, decide_eq_true_eq] at *; omega

theorem isVar_bad (l : List UInt8) (j : Nat) (h : j < l.length) (hb : okB j l[j] = false) : isVar l = false := by
  cases l with
  | nil => simp at h
  | cons c l =>
    cases j with
    | zero => simp [okB] at hb; simp [isVar, hb]
    | succ j =>
      simp [okB] at hb
      have hj : j < l.length := by simpa using h
      have : l.all folB = false := by
        rw [List.all_eq_false]
        exact ⟨l[j], List.getElem_mem hj, by simp [hb]⟩
      simp [isVar, this]

theorem isVar_good (l : List UInt8) (hne : l ≠ []) (h : ∀ j (hj : j < l.length), okB j l[j] = true) : isVar l = true := by
  cases l with
  | nil => exact absurd rfl hne
  | cons c l =>
    have h0 : fstB c = true := by have h' := h 0 (by simp); rw [okB, if_pos rfl] at h'; exact h'
    have h1 : l.all folB = true := by
      rw [List.all_eq_true]
      intro x hx
      obtain ⟨j, hj, rfl⟩ := List.getElem_of_mem hx
      have := h (j + 1) (by simpa using hj)
      simpa [okB] using this
    simp [isVar, h0, h1]

theorem ok_cases (k : Nat) (c : UInt8) (h : okB k c = true) : (c.toNat : Int) = 95 ∨ (97 ≤ (c.toNat : Int) ∧ (c.toNat : Int) ≤ 122) ∨ (65 ≤ (c.toNat : Int) ∧ (c.toNat : Int) ≤ 90) ∨ (0 < k ∧ 48 ≤ (c.toNat : Int) ∧ (c.toNat : Int) ≤ 57) := by
  unfold okB at h
  split at h <;> simp only [fstB, folB, decide_eq_true_eq] at h <;> omega

theorem bad_cases (k : Nat) (c : UInt8) (h : okB k c = false) : (c.toNat : Int) < 48 ∨ (48 ≤ (c.toNat : Int) ∧ (c.toNat : Int) ≤ 57 ∧ k = 0) ∨ (58 ≤ (c.toNat : Int) ∧ (c.toNat : Int) ≤ 64) ∨
    (91 ≤ (c.toNat : Int) ∧ (c.toNat : Int) ≤ 94) ∨ (c.toNat : Int) = 96 ∨ 123 ≤ (c.toNat : Int) := by
  unfold okB at h
  split at h <;> simp only [fstB, folB, decide_eq_false_iff_not] at h <;> omega

theorem isVar_one (c : UInt8) : isVar [c] = fstB c := by simp [isVar]
theorem isVar_under (l : List UInt8) : isVar (95 :: l) = l.all folB := by simp [isVar, fstB]

/-- How many of the first n bytes pass a test. -/
def cnt (f : UInt8 → Bool) : Nat → Nat
  | 0 => 0
  | n + 1 => cnt f n + if f (UInt8.ofNat n) then 1 else 0

theorem cnt_le (f : UInt8 → Bool) (n : Nat) : cnt f n ≤ n := by
  induction n with
  | zero => simp [cnt]
  | succ n ih => simp only [cnt]; split <;> omega

theorem cnt_fst : cnt fstB 256 = 53 := by decide +kernel
theorem cnt_fol : cnt folB 256 = 63 := by decide +kernel

theorem cnt_congr (f g : UInt8 → Bool) (n : Nat) (h : ∀ c, f c = g c) : cnt f n = cnt g n := by
  induction n with
  | zero => rfl
  | succ n ih => simp only [cnt, ih, h]

theorem cnt_no (n : Nat) : cnt (fun _ => false) n = 0 := by
  induction n with
  | zero => rfl
  | succ n ih => simp [cnt, ih]

/-- The split law. -/
theorem isVar_split (a : UInt8) (l m : List UInt8) : isVar (a :: l ++ m) = (isVar (a :: l) && isVar (a :: m)) := by
  simp only [isVar, List.cons_append, List.all_append]
  cases fstB a <;> simp

/-- One byte put in behind the head: the count. -/
theorem cnt_in (a : UInt8) (l m : List UInt8) : cnt (fun c => isVar ((a :: l) ++ [c] ++ m)) 256 = if isVar (a :: l ++ m) then 63 else 0 := by
  cases h : isVar (a :: l ++ m) with
  | false =>
    rw [cnt_congr _ (fun _ => false), cnt_no]
    · simp
    · intro c
      simp only [isVar, List.cons_append, List.append_assoc, List.all_append] at h ⊢
      cases hf : fstB a <;> cases hl : l.all folB <;> cases hm : m.all folB <;> simp_all
  | true =>
    rw [cnt_congr _ folB, cnt_fol]
    · simp
    · intro c
      simp only [isVar, List.cons_append, List.append_assoc, List.all_append] at h ⊢
      cases hf : fstB a <;> cases hl : l.all folB <;> cases hm : m.all folB <;> simp_all

/-- One byte put in ahead: the count. -/
theorem cnt_head (m : List UInt8) : cnt (fun c => isVar ([] ++ [c] ++ m)) 256 = if isVar (95 :: m) then 53 else 0 := by
  rw [isVar_under]
  cases hm : m.all folB with
  | false =>
    rw [cnt_congr _ (fun _ => false), cnt_no]
    · simp
    · intro c; simp [isVar, hm]
  | true =>
    rw [cnt_congr _ fstB, cnt_fst]
    · simp
    · intro c; simp [isVar, hm]
end Go.Proofs.Qxb6628299a
