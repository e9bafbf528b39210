import Derived.Test.Qxb6628299aSizes
namespace Go.Proofs.Qxb6628299a
open Go.RowKit

set_option maxRecDepth 100000 in
set_option maxHeartbeats 1000000 in
theorem walk3 (a b : ByteArray) (ha : a.size ≤ maxLen) (hb : b.size ≤ maxLen) (w : World) :
    Calls Try.prog 3 #[.string a, .string b] w fun e w' => e = .returned (.bool true) ∧ Below w.heap.size w w' := by
  unfold maxLen at ha hb
  by_cases h1 : a.size ≤ 65536
  · by_cases h2 : b.size ≤ 65536
    · cases hemp : a.toList.isEmpty with
      | true =>
        have E0 : Hid (isVar (a ++ b).data.toList = isVar b.data.toList) := by
          rw [ByteArray.toList_eq] at hemp
          rw [ByteArray.data_append, Array.toList_append, List.isEmpty_iff.1 hemp]; rfl
        have HS : Hid ((a ++ b).size ≤ 1000000) := by show (a ++ b).size ≤ 1000000; rw [ByteArray.size_append]; omega
        go_enter Try.func3, Try.ntmps3
        go_wp2_with (go_at_call 5; go_in)
        refine (sizes_any _).mono ?_
        rintro e w1 ⟨rfl, hb1⟩
        go_wp2_with fail
        refine (isVar_any _ _ HS.out).mono ?_
        rintro e w2 ⟨rfl, hb2⟩
        rw [E0.out]
        go_wp2_with fail
        refine (isVar_any _ _ (by omega)).mono ?_
        rintro e w3 ⟨rfl, hb3⟩
        have R : Below w.heap.size w w3 := below_next (below_next hb1 (Nat.le_refl _) hb2) (Nat.le_refl _) hb3
        clear hb1 hb2 hb3
        go_wp2
        go_ret
        exact ⟨rfl, R⟩
      | false =>
        obtain ⟨c, l, hl⟩ : ∃ c l, a.data.toList = c :: l := by
          rw [ByteArray.toList_eq] at hemp
          cases h : a.data.toList with
          | nil => rw [h] at hemp; cases hemp
          | cons c l => exact ⟨c, l, rfl⟩
        have hpos : 1 ≤ a.size := by
          have : a.data.toList.length = a.size := by simp
          rw [hl] at this; simp at this; omega
        have E0 : Hid (isVar (a ++ b).data.toList = (isVar a.data.toList && isVar (a.extract 0 1 ++ b).data.toList)) := by
          have e1 : (a.extract 0 1).data.toList = [c] := by simp [hl]
          show isVar (a ++ b).data.toList = _
          rw [ByteArray.data_append, Array.toList_append, ByteArray.data_append, Array.toList_append, e1, hl]
          exact isVar_split c l b.data.toList
        clear hl
        have HS : Hid ((a ++ b).size ≤ 1000000 ∧ (a.extract 0 1 ++ b).size ≤ 1000000) := by
          show (a ++ b).size ≤ 1000000 ∧ (a.extract 0 1 ++ b).size ≤ 1000000
          rw [ByteArray.size_append, ByteArray.size_append]
          have : (a.extract 0 1).size ≤ a.size := by simp; omega
          omega
        cases hva : isVar a.data.toList <;> cases hvb : isVar (a.extract 0 1 ++ b).data.toList
        all_goals
          rw [hva, hvb] at E0
          have VA : Hid (isVar a.data.toList = _) := hva
          have VB : Hid (isVar (a.extract 0 1 ++ b).data.toList = _) := hvb
          clear hva hvb
          go_enter Try.func3, Try.ntmps3
          go_wp2_with (go_at_call 5; go_in)
          refine (sizes_any _).mono ?_
          rintro e w1 ⟨rfl, hb1⟩
          go_wp2_with fail
          refine (isVar_any _ _ HS.out.1).mono ?_
          rintro e w2 ⟨rfl, hb2⟩
          rw [E0.out]
          go_wp2_with fail
          refine (isVar_any _ _ (by omega)).mono ?_
          rintro e w3 ⟨rfl, hb3⟩
          rw [VA.out]
          have R : Below w.heap.size w w3 := below_next (below_next hb1 (Nat.le_refl _) hb2) (Nat.le_refl _) hb3
          clear hb1 hb2 hb3
          go_wp2_with fail
          first
            | (go_ret; exact ⟨rfl, R⟩)
            | (refine (isVar_any _ _ HS.out.2).mono ?_
               rintro e w4 ⟨rfl, hb4⟩
               rw [VB.out]
               have R4 : Below w.heap.size w w4 := below_next R (Nat.le_refl _) hb4
               clear hb4 R
               go_wp2
               go_ret
               exact ⟨rfl, R4⟩)
    · go_enter Try.func3, Try.ntmps3
      go_wp2
      all_goals (go_ret; exact ⟨rfl, Below.refl _ _⟩)
  · go_enter Try.func3, Try.ntmps3
    go_wp2
    all_goals (go_ret; exact ⟨rfl, Below.refl _ _⟩)
end Go.Proofs.Qxb6628299a
