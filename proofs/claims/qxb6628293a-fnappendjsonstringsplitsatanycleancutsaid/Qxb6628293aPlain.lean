namespace Go.Proofs.Qxb6628293a

/-- Does the list open with U+2028 or U+2029? -/
def sep : List UInt8 → Bool
  | a :: b :: c :: _ => a.toNat == 226 && b.toNat == 128 && (c.toNat == 168 || c.toNat == 169)
  | _ => false

/-- A byte that is escaped by itself. -/
def spec (c : UInt8) : Bool := decide (c.toNat < 32 ∨ c.toNat = 34 ∨ c.toNat = 92)

def hexD (n : Nat) : UInt8 := if n < 10 then UInt8.ofNat (48 + n) else UInt8.ofNat (87 + n)

/-- The escape of such a byte. -/
def escB (c : UInt8) : List UInt8 :=
  if c.toNat = 34 ∨ c.toNat = 92 then [92, c]
  else if c.toNat = 8 then [92, 98]
  else if c.toNat = 12 then [92, 102]
  else if c.toNat = 10 then [92, 110]
  else if c.toNat = 13 then [92, 114]
  else if c.toNat = 9 then [92, 116]
  else [92, 117, 48, 48, hexD (c.toNat / 16), hexD (c.toNat % 16)]

def one (c : UInt8) : List UInt8 := if spec c then escB c else [c]

/-- The escape of a line separator, off its third byte. -/
def lineEsc (c : UInt8) : List UInt8 := [92, 117, 50, 48, 50, hexD (c.toNat % 16)]

/-- The third byte of a list. -/
def third : List UInt8 → UInt8
  | _ :: _ :: c :: _ => c
  | _ => 0

/-- What is written of a text; the first number: how many bytes are passed over first. -/
def encS : Nat → List UInt8 → List UInt8
  | _, [] => []
  | k + 1, _ :: l => encS k l
  | 0, c :: l => if sep (c :: l) then lineEsc (third (c :: l)) ++ encS 2 l else one c ++ encS 0 l

theorem encS_drop (k : Nat) (l : List UInt8) : encS k l = encS 0 (l.drop k) := by
  induction l generalizing k with
  | nil => cases k <;> simp [encS]
  | cons c l ih =>
    cases k with
    | zero => rfl
    | succ k => simp only [encS, List.drop_succ_cons]; exact ih k

theorem sep_append (l m : List UInt8) (h : sep l = true) : sep (l ++ m) = true := by
  match l with
  | [] => simp [sep] at h
  | [_] => simp [sep] at h
  | [_, _] => simp [sep] at h
  | a :: b :: c :: l => simpa [sep] using h

/-- No line separator runs across the cut. -/
def clean (a b : List UInt8) : Prop := ∀ i, i < a.length → a.length < i + 3 → sep ((a ++ b).drop i) = false

theorem clean_tail (c : UInt8) (a b : List UInt8) (h : clean (c :: a) b) : clean a b := by
  intro i h1 h2
  have := h (i + 1) (by simpa using h1) (by simp; omega)
  simpa using this

theorem enc_split (a b : List UInt8) (k : Nat) (hk : k ≤ a.length) (h : clean a b) : encS k (a ++ b) = encS k a ++ encS 0 b := by
  induction a generalizing k with
  | nil => simp at hk; subst hk; cases b <;> simp [encS]
  | cons c a ih =>
    cases k with
    | succ k => simpa [encS] using ih k (by simpa using hk) (clean_tail c a b h)
    | zero =>
      have h0 := ih 0 (Nat.zero_le _) (clean_tail c a b h)
      show encS 0 (c :: (a ++ b)) = _
      by_cases hs : sep (c :: (a ++ b)) = true
      · have hlen : 2 ≤ a.length := by
          refine Nat.le_of_not_lt fun hl => ?_
          have := h 0 (by simp) (by simp; omega)
          simp at this
          rw [hs] at this
          cases this
        match a, hlen with
        | x :: y :: a, _ =>
          have h2 := ih 2 (by simp) (clean_tail c _ b h)
          have hs' : sep (c :: x :: y :: a) = true := by simpa [sep] using hs
          rw [encS, if_pos hs, encS, if_pos hs', h2]
          simp [third]
      · have hs' : ¬ sep (c :: a) = true := fun e => hs (sep_append (c :: a) b e)
        rw [encS, if_neg hs, encS, if_neg hs', h0]
        simp

theorem escB_len (c : UInt8) : 2 ≤ (escB c).length ∧ (escB c).length ≤ 6 := by
  unfold escB
  repeat' split
  all_goals simp

theorem one_len (c : UInt8) : 1 ≤ (one c).length ∧ (one c).length ≤ 6 := by
  unfold one
  have := escB_len c
  split
  · omega
  · simp

theorem enc_len (l : List UInt8) (k : Nat) : l.length ≤ (encS k l).length + k ∧ (encS k l).length ≤ 6 * l.length := by
  induction l generalizing k with
  | nil => simp [encS]
  | cons c l ih =>
    cases k with
    | succ k => have := ih k; simp only [encS, List.length_cons]; omega
    | zero =>
      rw [encS]
      split
      · have := ih 2; simp [lineEsc]; omega
      · have := ih 0; have := one_len c; simp; omega

/-- The answer onto d. -/
def ans (d s : List UInt8) : List UInt8 := d ++ (34 :: (encS 0 s ++ [34]))

theorem ans_split (d a b : List UInt8) (h : clean a b) : ans d (a ++ b) = (ans d a).take ((ans d a).length - 1) ++ (ans [] b).drop 1 := by
  have e1 : ans d a = (d ++ 34 :: encS 0 a) ++ [34] := by simp [ans]
  rw [e1]
  have e2 : ((d ++ 34 :: encS 0 a) ++ [34]).length - 1 = (d ++ 34 :: encS 0 a).length := by simp
  rw [e2, List.take_left]
  simp [ans, enc_split a b 0 (Nat.zero_le _) h]

theorem enc_drop_cons (s : List UInt8) (i : Nat) (h : i < s.length) : encS 0 (s.drop i) = if sep (s.drop i) then lineEsc (third (s.drop i)) ++ encS 0 (s.drop (i + 3)) else one s[i] ++ encS 0 (s.drop (i + 1)) := by
  have e : s.drop i = s[i] :: s.drop (i + 1) := List.drop_eq_getElem_cons h
  rw [e, encS]
  congr 1
  rw [encS_drop, List.drop_drop]

theorem sep_short (l : List UInt8) (n : Nat) (h : l.length ≤ n + 2) : sep (l.drop n) = false := by
  have : (l.drop n).length ≤ 2 := by simp; omega
  match l.drop n, this with
  | [], _ => rfl
  | [_], _ => rfl
  | [_, _], _ => rfl

theorem sep_at (l : List UInt8) (n : Nat) (h : n + 2 < l.length) : sep (l.drop n) = (l[n].toNat == 226 && l[n + 1].toNat == 128 && (l[n + 2].toNat == 168 || l[n + 2].toNat == 169)) := by
  have e : l.drop n = l[n] :: l[n + 1] :: l[n + 2] :: l.drop (n + 3) := by
    rw [List.drop_eq_getElem_cons (by omega), List.drop_eq_getElem_cons (by omega), List.drop_eq_getElem_cons (by omega)]
  rw [e]; rfl

theorem third_at (l : List UInt8) (n : Nat) (h : n + 2 < l.length) : third (l.drop n) = l[n + 2] := by
  have e : l.drop n = l[n] :: l[n + 1] :: l[n + 2] :: l.drop (n + 3) := by
    rw [List.drop_eq_getElem_cons (by omega), List.drop_eq_getElem_cons (by omega), List.drop_eq_getElem_cons (by omega)]
  rw [e]; rfl

/-- What 'isLineSep' answers. -/
def sepI (l : List UInt8) (i : Int) : Bool := if i < 0 then false else sep (l.drop i.toNat)

theorem clean_of (a b : List UInt8) (h : ∀ m : Nat, 1 ≤ m → m < 3 → sepI (a ++ b) ((a.length : Int) - m) = false) : clean a b := by
  intro i h1 h2
  have := h (a.length - i) (by omega) (by omega)
  have e : ((a.length : Int) - ((a.length - i : Nat) : Int)) = (i : Int) := by omega
  rw [e] at this
  unfold sepI at this
  rw [if_neg (by omega)] at this
  simpa using this
end Go.Proofs.Qxb6628293a
