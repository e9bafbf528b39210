import Derived.Test.Qxb6628176aBelow
import Derived.Test.Qxb6628176aArgs
namespace Go.Proofs.Qxb6628176a
open Go.RowKit Go.Maps
set_option linter.unusedVariables false

theorem run_make26 (n : Int) (w : World) : (Instr.makeMap 26 (some (.int .i64 n))).run Try.prog w = .ok (.map (some w.heap.size)) (w.alloc (.map #[] 0)) := by
  simp [Instr.makeMap, run_underlying Try.underlying26, asInt, asIntOf, Result.andThen]

theorem places_start (ss : List ByteArray) : Places (.map []) ss 0 :=
  ⟨Maps.isMap_empty, fun j s h => absurd h (Nat.not_lt_zero j), fun s _ => rfl⟩

theorem key_lit (l : List UInt8) : WideAt.IsKeyLit (.string l) := trivial

theorem places_step {D : DataW Unit} {ss : List ByteArray} {k : Nat} {s : ByteArray} (h : Places D ss k) (hs : ss[k]? = some s) (hd : ∀ j, j < k → ss[j]? ≠ some s) : Places (D.put (.string s.data.toList) (.lit (.int .i64 (k : Int)))) ss (k + 1) where
  ismap := h.ismap.put _ _
  hit := fun j t hj ht => by
    by_cases e : j = k
    · subst e
      rw [hs] at ht
      cases ht
      exact ⟨Maps.has_put_same h.ismap (key_lit _) _, Maps.atKey_put_same h.ismap (key_lit _) _ _⟩
    · have hjk : j < k := by omega
      have hne : (Lit.string t.data.toList) ≠ .string s.data.toList := fun e2 => by
        injection e2 with e3
        have := WideShapes.bytes_inj e3
        subst this
        exact hd j hjk ht
      rw [Maps.has_put_other hne, Maps.atKey_put_other hne]
      exact h.hit j t hjk ht
  miss := fun t ht => by
    have hne : (Lit.string t.data.toList) ≠ .string s.data.toList := fun e2 => by
      injection e2 with e3
      have := WideShapes.bytes_inj e3
      subst this
      exact ht k (Nat.lt_succ_self _) hs
    rw [Maps.has_put_other hne]
    exact h.miss t fun j hj => ht j (by omega)

/-- Of the first k names no two are one. -/
def Dist (ss : List ByteArray) (k : Nat) : Prop := ∀ (i j : Nat) (s : ByteArray), i < j → j < k → ss[j]? = some s → ss[i]? ≠ some s

/-- The rows that have been copied so far. -/
def SbTo (w : World) (SB n : Nat) (rows : List (List Nat)) (q : Nat) : Prop :=
  ∃ V : List Value, w.ownsRow SB 25 1 (.slice (some ⟨SB, 0, none⟩) n n) n V ∧ (∀ j, j < q → ∃ v, V[j]? = some v ∧ w.ownsRow (SB + 1) 3 1 v (rowAt rows j).length (iv (rowAt rows j))) ∧ (∀ j, q ≤ j → j < n → V[j]? = some (.slice none 0 0))

theorem SbTo.stays {w w' : World} {SB n q : Nat} {rows : List (List Nat)} (h : SbTo w SB n rows q) (hb : Below w.heap.size w w') : SbTo w' SB n rows q := by
  obtain ⟨V, h1, h2, h3⟩ := h
  refine ⟨V, owns_stays h1 hb, fun j hj => ?_, h3⟩
  obtain ⟨v, e, ho⟩ := h2 j hj
  exact ⟨v, e, owns_stays ho hb⟩

theorem SbTo.start {w : World} {SB n : Nat} {rows : List (List Nat)} (h : w.ownsRow SB 25 1 (.slice (some ⟨SB, 0, none⟩) n n) n (madeCells (Value.slice none 0 0).cells (n * 1)).toList) : SbTo w SB n rows 0 := by
  refine ⟨_, h, fun j hj => absurd hj (Nat.not_lt_zero j), fun j _ hj => ?_⟩
  have e : (madeCells (Value.slice none 0 0).cells (n * 1)).toList = List.replicate n (Value.slice none 0 0) := by
    rw [Nat.mul_one]; exact toList_madeCells_one _ n
  rw [e, List.getElem?_replicate, if_pos hj]

theorem SbTo.skip {w : World} {SB n q : Nat} {rows : List (List Nat)} (h : SbTo w SB n rows q) (hq : q < n) (hr : rowAt rows q = []) : SbTo w SB n rows (q + 1) := by
  obtain ⟨V, h1, h2, h3⟩ := h
  refine ⟨V, h1, fun j hj => ?_, fun j hj hn => h3 j (by omega) hn⟩
  by_cases e : j = q
  · subst e
    exact ⟨_, h3 j (Nat.le_refl _) hq, by rw [hr]; exact World.ownsRow_nil _ _ _ _⟩
  · exact h2 j (by omega)

theorem SbTo.put {w : World} {SB n q : Nat} {rows : List (List Nat)} {v : Value} (h : SbTo w SB n rows q) (hq : q < n) (hv : w.ownsRow (SB + 1) 3 1 v (rowAt rows q).length (iv (rowAt rows q))) : SbTo (w.setCell ⟨SB, q, none⟩ v) SB n rows (q + 1) := by
  obtain ⟨V, h1, h2, h3⟩ := h
  have hl : V.length = n := by have := h1.1; omega
  refine ⟨V.set q v, (h1.stored q v).1, fun j hj => ?_, fun j hj hn => ?_⟩
  · by_cases e : j = q
    · subst e
      exact ⟨v, by rw [List.getElem?_set]; simp [hl, hq], ownsRow_setCell_below hv (Nat.lt_succ_self _) _⟩
    · obtain ⟨u, e1, ho⟩ := h2 j (by omega)
      exact ⟨u, by rw [List.getElem?_set, if_neg (Ne.symm e)]; exact e1, ownsRow_setCell_below ho (Nat.lt_succ_self _) _⟩
  · rw [List.getElem?_set, if_neg (by omega)]
    exact h3 j (by omega) hn

theorem SbTo.grid {w : World} {SB n : Nat} {rows : List (List Nat)} (h : SbTo w SB n rows n) : Grid w SB n rows := by
  obtain ⟨V, h1, h2, _⟩ := h
  refine ⟨V, owns_base h1 (Nat.zero_le _), fun q hq => ?_⟩
  obtain ⟨v, e, ho⟩ := h2 q hq
  exact ⟨v, e, owns_base ho (Nat.zero_le _)⟩

theorem SbTo.cell {w : World} {SB n q j : Nat} {rows : List (List Nat)} (h : SbTo w SB n rows q) (hj : j < n) : (∃ x, w.cell? ⟨SB, j, none⟩ = some x) ∧ w.frozen? ⟨SB, j, none⟩ = false ∧ SB < w.heap.size := by
  obtain ⟨V, h1, _, _⟩ := h
  have hl : V.length = n := by have := h1.1; omega
  exact ⟨⟨V[j]'(by omega), by rw [h1.cellAt j (by omega), List.getElem?_eq_getElem (by omega)]⟩, h1.frozenAt j, (h1.lt SB rfl).2⟩

/-- The superclasses gathered so far: each a row of its own, of at most B. -/
def SupTo (w : World) (SP n B : Nat) : Prop :=
  ∃ U : List Value, w.ownsRow SP 25 1 (.slice (some ⟨SP, 0, none⟩) n n) n U ∧ (∀ (j : Nat) (v : Value), U[j]? = some v → ∃ l xs, w.ownsRow (SP + 1) 3 1 v l xs ∧ l ≤ B) ∧
    (∀ (i j : Nat) (u v : Value), i ≠ j → U[i]? = some u → U[j]? = some v → u.ownBlock = none ∨ u.ownBlock ≠ v.ownBlock)

theorem SupTo.mono {w : World} {SP n B B' : Nat} (h : SupTo w SP n B) (hB : B ≤ B') : SupTo w SP n B' := by
  obtain ⟨U, h1, h2, h3⟩ := h
  refine ⟨U, h1, fun j v hj => ?_, h3⟩
  obtain ⟨l, xs, ho, hl⟩ := h2 j v hj
  exact ⟨l, xs, ho, by omega⟩

theorem SupTo.start {w : World} {SP n : Nat} (h : w.ownsRow SP 25 1 (.slice (some ⟨SP, 0, none⟩) n n) n (madeCells (Value.slice none 0 0).cells (n * 1)).toList) : SupTo w SP n 0 := by
  have e : (madeCells (Value.slice none 0 0).cells (n * 1)).toList = List.replicate n (Value.slice none 0 0) := by
    rw [Nat.mul_one]; exact toList_madeCells_one _ n
  rw [e] at h
  refine ⟨_, h, fun j v hj => ?_, fun i j u v _ hi _ => ?_⟩
  · rw [List.getElem?_replicate] at hj
    split at hj
    · cases hj; exact ⟨0, [], World.ownsRow_nil _ _ _ _, Nat.le_refl _⟩
    · cases hj
  · rw [List.getElem?_replicate] at hi
    split at hi
    · cases hi; exact .inl rfl
    · cases hi

theorem SupTo.at {w : World} {SP n B s : Nat} (h : SupTo w SP n B) (hs : s < n) : ∃ v l xs, w.cell? ⟨SP, s, none⟩ = some v ∧ w.ownsRow (SP + 1) 3 1 v l xs ∧ l ≤ B ∧
    (∀ w1 w2 v' xs', (w1 = w ∨ ∃ o, w1 = w.alloc o) → w1.grownBy w2 v.ownBlock → w2.ownsRow (SP + 1) 3 1 v' (l + 1) xs' → (v'.ownBlock = v.ownBlock ∨ v'.ownBlock = some w1.heap.size) →
      SupTo (w2.setCell ⟨SP, s, none⟩ v') SP n (B + 1) ∧ (∃ x, w2.cell? ⟨SP, s, none⟩ = some x) ∧ w2.frozen? ⟨SP, s, none⟩ = false) := by
  obtain ⟨U, h1, h2, h3⟩ := h
  have hl : U.length = n := by have := h1.1; omega
  have hU : U[s]? = some (U[s]'(by omega)) := List.getElem?_eq_getElem (by omega)
  generalize U[s]'(by omega) = v at hU
  obtain ⟨l, xs, ho, hlB⟩ := h2 s v hU
  refine ⟨v, l, xs, by rw [h1.cellAt s (by omega)]; exact hU, ho, hlB, ?_⟩
  intro w1 w2 v' xs' hw1 hg ho' hloc
  have hw1o : ∀ {e size v n xs} {base : Nat}, w.ownsRow base e size v n xs → w1.ownsRow base e size v n xs := by
    intro e size v n xs base h
    rcases hw1 with rfl | ⟨o, rfl⟩
    · exact h
    · exact h.alloc o
  have hsz : w.heap.size ≤ w1.heap.size := by
    rcases hw1 with rfl | ⟨o, rfl⟩
    · exact Nat.le_refl _
    · simp
  have hSP : w2.ownsRow SP 25 1 (.slice (some ⟨SP, 0, none⟩) n n) n U := (hw1o h1).kept hg (.inr fun e => by
    have := (ho.lt SP (by rw [← e]; rfl)).1
    omega)
  refine ⟨?_, ⟨v, by rw [hSP.cellAt s (by omega)]; exact hU⟩, hSP.frozenAt s⟩
  refine ⟨U.set s v', (hSP.stored s v').1, fun j u hj => ?_, fun i j u x hij hi hj => ?_⟩
  · rw [List.getElem?_set] at hj
    split at hj
    · rename_i e
      split at hj
      · cases hj
        exact ⟨l + 1, xs', ownsRow_setCell_below ho' (Nat.lt_succ_self _) _, by omega⟩
      · cases hj
    · rename_i e
      obtain ⟨l2, xs2, ho2, hl2⟩ := h2 j u hj
      refine ⟨l2, xs2, ownsRow_setCell_below ((hw1o ho2).kept hg ?_) (Nat.lt_succ_self _) _, by omega⟩
      exact h3 j s u v (Ne.symm e) hj hU
  · have old : ∀ (j : Nat) (x : Value), j ≠ s → U[j]? = some x → (x.ownBlock = none ∨ x.ownBlock ≠ v'.ownBlock) := by
      intro j x hjs hx
      rcases hloc with e | e
      · rw [e]; exact h3 j s x v hjs hx hU
      · obtain ⟨l2, xs2, ho2, _⟩ := h2 j x hx
        by_cases hn : x.ownBlock = none
        · exact .inl hn
        · refine .inr fun e2 => ?_
          have := (ho2.lt w1.heap.size (by rw [e2, e])).2
          omega
    rw [List.getElem?_set] at hi hj
    by_cases ei : s = i
    · rw [if_pos ei] at hi
      have ej : ¬ s = j := fun e => hij (ei.symm.trans e)
      rw [if_neg ej] at hj
      split at hi
      · cases hi
        rcases old j x (Ne.symm ej) hj with h | h
        · by_cases hn : v'.ownBlock = none
          · exact .inl hn
          · exact .inr (by rw [h]; exact hn)
        · exact .inr (Ne.symm h)
      · cases hi
    · rw [if_neg ei] at hi
      by_cases ej : s = j
      · rw [if_pos ej] at hj
        split at hj
        · cases hj
          exact old i u (Ne.symm ei) hi
        · cases hj
      · rw [if_neg ej] at hj
        exact h3 i j u x hij hi hj

theorem owns_form {w : World} {base e size n : Nat} {v : Value} {xs : List Value} (h : w.ownsRow base e size v n xs) : ∃ A C, v = .slice A n C := by
  rcases h.2 with ⟨rfl, rfl⟩ | ⟨g, cap, cur, rfl, _⟩
  · exact ⟨_, _, rfl⟩
  · exact ⟨_, _, rfl⟩

theorem sv_ext {xs : List Value} {ss : List ByteArray} (hl : xs.length = ss.length) (h : ∀ (j : Nat) (s : ByteArray), ss[j]? = some s → xs[j]? = some (Value.string s)) : xs = sv ss := by
  apply List.ext_getElem?
  intro j
  by_cases hj : j < ss.length
  · rw [h j _ (List.getElem?_eq_getElem hj)]
    simp [sv, hj]
  · rw [List.getElem?_eq_none (by omega), List.getElem?_eq_none (by rw [sv_len]; omega)]

theorem iv_ext {xs : List Value} {r : List Nat} (hl : xs.length = r.length) (h : ∀ (j x : Nat), r[j]? = some x → xs[j]? = some (Value.int .i64 (x : Int))) : xs = iv r := by
  apply List.ext_getElem?
  intro j
  by_cases hj : j < r.length
  · rw [h j _ (List.getElem?_eq_getElem hj)]
    simp [iv, hj]
  · rw [List.getElem?_eq_none (by omega), List.getElem?_eq_none (by rw [iv_len]; omega)]
end Go.Proofs.Qxb6628176a
