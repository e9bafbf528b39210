import Derived.Test.Qxb6628176aBuild
namespace Go.Proofs.Qxb6628176a
open Go.RowKit Go.Maps
set_option linter.unusedVariables false

/-- What the law asks of the row of place q. -/
def RowOk (n q : Nat) (zs : List Int) : Prop := ∀ (i : Nat) (z : Int), zs[i]? = some z → (q : Int) < z ∧ z < (n : Int)

def toRows (zz : List (List Int)) : List (List Nat) := zz.map fun zs => zs.map Int.toNat

theorem rowAt_toRows (zz : List (List Int)) (q : Nat) : rowAt (toRows zz) q = (zAt zz q).map Int.toNat := by
  unfold rowAt toRows zAt
  by_cases h : q < zz.length
  · simp [List.getD, h]
  · simp [List.getD, h]

theorem rowAt_len (zz : List (List Int)) (q : Nat) : (rowAt (toRows zz) q).length = (zAt zz q).length := by rw [rowAt_toRows, List.length_map]

/-- The number at place i of the row of place q. -/
theorem rowAt_some {zz : List (List Int)} {n q i x : Nat} (hr : RowOk n q (zAt zz q)) (h : (rowAt (toRows zz) q)[i]? = some x) : (zAt zz q)[i]? = some (x : Int) ∧ q < x ∧ x < n := by
  rw [rowAt_toRows, List.getElem?_map] at h
  cases hz : (zAt zz q)[i]? with
  | none => rw [hz] at h; cases h
  | some z =>
    rw [hz] at h
    simp at h
    have := hr i z hz
    refine ⟨?_, ?_, ?_⟩
    · congr 1; omega
    · omega
    · omega

theorem within_of {zz : List (List Int)} {n : Nat} (hl : zz.length = n) (h : ∀ q, q < n → RowOk n q (zAt zz q)) : Within (toRows zz) n := by
  intro q x hx
  by_cases hq : q < n
  · obtain ⟨i, hi, rfl⟩ := List.getElem_of_mem hx
    exact (rowAt_some (h q hq) (List.getElem?_eq_getElem hi)).2.2
  · have e : rowAt (toRows zz) q = [] := by
      rw [rowAt_toRows]
      unfold zAt
      rw [List.getD, List.getElem?_eq_none (by omega)]
      rfl
    rw [e] at hx
    cases hx

theorem narg_of {w : World} {ao : Option Addr} {n : Nat} {zz : List (List Int)} (hG : GArg w ao n zz) (h : ∀ q, q < n → RowOk n q (zAt zz q)) : NArg w ao n (toRows zz) := by
  intro hn
  obtain ⟨b, off, e, hl, hc⟩ := hG.cells hn
  refine ⟨b, off, e, hl, fun j hj => ?_⟩
  obtain ⟨A, C, h1, h2, h3⟩ := hc j _ (zAt_some (by rw [hG.len]; exact hj))
  refine ⟨A, C, by rw [rowAt_len]; exact h1, fun hp => ?_⟩
  rw [rowAt_len] at hp
  obtain ⟨b', off', e', hl', hc'⟩ := h3.cells hp
  exact ⟨b', off', e', hl', fun k x hk => hc' k _ (rowAt_some (h j hj) hk).1⟩

/-- What has been marked behind k of the direct subclasses of p. -/
def MarkTo (rows : List (List Nat)) (n p k : Nat) (mark : List Bool) : Prop :=
  mark.length = n ∧ ∀ q, mark[q]? = some true ↔ ∃ i s, i < k ∧ (rowAt rows p)[i]? = some s ∧ (q = s ∨ Reach rows s q)

theorem markTo_start (rows : List (List Nat)) (n p : Nat) : MarkTo rows n p 0 (List.replicate n false) := by
  refine ⟨by simp, fun q => ⟨fun h => ?_, fun ⟨i, s, h, _⟩ => absurd h (Nat.not_lt_zero i)⟩⟩
  rw [List.getElem?_replicate] at h
  split at h <;> simp at h

/-- What has been marked behind j of the names below s. -/
def MarkIn (mark0 : List Bool) (seen : List Bool) (n j : Nat) (mark : List Bool) : Prop :=
  mark.length = n ∧ ∀ q, mark[q]? = some true ↔ mark0[q]? = some true ∨ ∃ i, i < j ∧ (pos seen n)[i]? = some q

theorem markIn_start (mark0 seen : List Bool) (n : Nat) (h : mark0.length = n) : MarkIn mark0 seen n 0 mark0 :=
  ⟨h, fun q => ⟨.inl, fun h => h.elim id fun ⟨i, hi, _⟩ => absurd hi (Nat.not_lt_zero i)⟩⟩

theorem markIn_step {mark0 seen mark : List Bool} {n j t : Nat} (h : MarkIn mark0 seen n j mark) (ht : (pos seen n)[j]? = some t) (htn : t < n) : MarkIn mark0 seen n (j + 1) (mark.set t true) := by
  refine ⟨by rw [List.length_set]; exact h.1, fun q => ⟨fun hq => ?_, fun hq => ?_⟩⟩
  · rcases set_true_inv hq with h1 | h1
    · rcases (h.2 q).1 h1 with h2 | ⟨i, hi, h2⟩
      · exact .inl h2
      · exact .inr ⟨i, by omega, h2⟩
    · subst h1; exact .inr ⟨j, Nat.lt_succ_self _, ht⟩
  · by_cases e : q = t
    · subst e; exact set_same (by rw [h.1]; exact htn)
    · apply set_true
      rcases hq with h1 | ⟨i, hi, h1⟩
      · exact (h.2 q).2 (.inl h1)
      · refine (h.2 q).2 (.inr ⟨i, ?_, h1⟩)
        refine Nat.lt_of_le_of_ne (by omega) fun e2 => ?_
        subst e2
        rw [ht] at h1
        cases h1
        exact e rfl

theorem getD_true {l : List Bool} {q : Nat} : l.getD q false = true ↔ l[q]? = some true := by
  unfold List.getD
  cases h : l[q]? with
  | none => simp
  | some b => simp

/-- Behind all the names below s the next of p's is done. -/
theorem markTo_step {rows : List (List Nat)} {n p k s : Nat} {mark mark' seen : List Bool} (h : MarkTo rows n p k mark) (hs : (rowAt rows p)[k]? = some s) (hsn : s < n) (hm : Marks rows n s seen)
    (hin : MarkIn (mark.set s true) seen n (pos seen n).length mark') : MarkTo rows n p (k + 1) mark' := by
  refine ⟨hin.1, fun q => ⟨fun hq => ?_, fun hq => ?_⟩⟩
  · rcases (hin.2 q).1 hq with h1 | ⟨i, hi, h1⟩
    · rcases set_true_inv h1 with h2 | h2
      · obtain ⟨i, s', hi, h3⟩ := (h.2 q).1 h2
        exact ⟨i, s', by omega, h3⟩
      · exact ⟨k, s, Nat.lt_succ_self _, hs, .inl h2⟩
    · have hp := (pos_mem seen n q).1 (List.mem_of_getElem? h1)
      exact ⟨k, s, Nat.lt_succ_self _, hs, .inr ((hm.2 q).1 (getD_true.1 hp.2))⟩
  · obtain ⟨i, s', hi, h1, h2⟩ := hq
    by_cases e : i = k
    · subst e
      rw [hs] at h1
      cases h1
      rcases h2 with rfl | h2
      · exact (hin.2 q).2 (.inl (set_same (by rw [h.1]; exact hsn)))
      · have hq := (hm.2 q).2 h2
        have hql : q < n := by rw [← hm.1]; exact (List.getElem?_eq_some_iff.1 hq).1
        obtain ⟨i2, hi2, e2⟩ := List.getElem_of_mem ((pos_mem seen n q).2 ⟨hql, getD_true.2 hq⟩)
        exact (hin.2 q).2 (.inr ⟨i2, hi2, by rw [List.getElem?_eq_getElem hi2, e2]⟩)
    · exact (hin.2 q).2 (.inl (set_true ((h.2 q).2 ⟨i, s', by omega, h1, h2⟩)))

/-- All of p's direct subclasses are done: the marks are those of the search from p. -/
theorem markTo_end {rows : List (List Nat)} {n p k : Nat} {mark seen : List Bool} (h : MarkTo rows n p k mark) (hk : k = (rowAt rows p).length) (hm : Marks rows n p seen) : pos mark n = pos seen n := by
  apply pos_congr
  intro q hq
  have : mark[q]? = some true ↔ seen[q]? = some true := by
    rw [h.2 q, hm.2 q, reach_union]
    constructor
    · rintro ⟨i, s, hi, h1, h2⟩
      exact ⟨s, List.mem_of_getElem? h1, h2⟩
    · rintro ⟨s, hs, h2⟩
      obtain ⟨i, hi, rfl⟩ := List.getElem_of_mem hs
      exact ⟨i, _, by omega, List.getElem?_eq_getElem hi, h2⟩
  rw [Bool.eq_iff_iff, getD_true, getD_true]
  exact this

theorem pick_at {ss : List ByteArray} {seen : List Bool} {n j t : Nat} (h : (pos seen n)[j]? = some t) : (pick ss seen n)[j]? = some (sAt ss t) := by
  unfold pick sAt
  rw [List.getElem?_map, h]
  rfl

theorem srow_cell {w : World} {base l C : Nat} {A : Option Addr} {ts : List ByteArray} (h : w.ownsRow base 9 1 (.slice A l C) l (sv ts)) (hl : 0 < l) :
    ∃ g, A = some ⟨g, 0, none⟩ ∧ g < w.heap.size ∧ ∀ (i : Nat) (s : ByteArray), ts[i]? = some s → w.cell? ⟨g, i, none⟩ = some (.string s) := by
  rcases h.2 with ⟨h1, h2⟩ | ⟨g, cap, cur, h1, h2, h3, _⟩
  · omega
  · simp only [Value.slice.injEq, true_and] at h1
    obtain ⟨rfl, rfl⟩ := h1
    refine ⟨g, rfl, (Array.getElem?_eq_some_iff.1 h3).1, fun i s hi => ?_⟩
    have hil := (List.getElem?_eq_some_iff.1 hi).1
    have hll := h.1
    rw [sv_len] at hll
    rw [h.cellAt i (by omega)]
    exact sv_get _ _ _ hi

theorem pos_lt {seen : List Bool} {n j t : Nat} (h : (pos seen n)[j]? = some t) : t < n := ((pos_mem seen n t).1 (List.mem_of_getElem? h)).1

theorem pick_len (ss : List ByteArray) (seen : List Bool) (n : Nat) : (pick ss seen n).length = (pos seen n).length := by rw [pick, List.length_map]

/-- Two maps of places of the same names hold the same. -/
theorem places_iff {D : DataW Unit} {ss : List ByteArray} {n : Nat} (h : Places D ss n) (s : ByteArray) : Maps.has D (.string s.data.toList) = true ↔ ∃ j, j < n ∧ ss[j]? = some s := by
  constructor
  · intro ht
    refine Classical.byContradiction fun hn => ?_
    rw [h.miss s fun j hj e => hn ⟨j, hj, e⟩] at ht
    cases ht
  · rintro ⟨j, hj, e⟩
    exact (h.hit j s hj e).1

theorem dist_step {D : DataW Unit} {ss : List ByteArray} {k : Nat} (h : Places D ss k) (hd : Dist ss k) {s : ByteArray} (hs : ss[k]? = some s) (hno : Maps.has D (.string s.data.toList) = false) : (∀ j, j < k → ss[j]? ≠ some s) ∧ Dist ss (k + 1) := by
  have h1 : ∀ j, j < k → ss[j]? ≠ some s := fun j hj e => by
    rw [(h.hit j s hj e).1] at hno
    cases hno
  refine ⟨h1, fun i j t hij hj ht => ?_⟩
  by_cases e : j = k
  · subst e
    rw [hs] at ht
    cases ht
    exact h1 i hij
  · exact hd i j t hij (by omega) ht
end Go.Proofs.Qxb6628176a
