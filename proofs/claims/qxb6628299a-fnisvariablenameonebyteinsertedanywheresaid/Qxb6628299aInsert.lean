import Derived.Test.Qxb6628299aSizes
namespace Go.Proofs.Qxb6628299a
open Go.RowKit

/-- What the loop's test asks at byte c. -/
def insB (a b : ByteArray) (c : UInt8) : Bool := isVar (a ++ ⟨#[c]⟩ ++ b).data.toList

theorem ins_list (a b : ByteArray) (c : UInt8) : insB a b c = isVar (a.data.toList ++ [c] ++ b.data.toList) := by
  unfold insB
  rw [ByteArray.data_append, Array.toList_append, ByteArray.data_append, Array.toList_append]

theorem cnt_ins_head (a b : ByteArray) (h : a.toList.isEmpty = true) : cnt (insB a b) 256 = if isVar ((ByteArray.mk #[95]) ++ b).data.toList then 53 else 0 := by
  rw [ByteArray.toList_eq] at h
  rw [cnt_congr (insB a b) (fun c => isVar ([] ++ [c] ++ b.data.toList)) 256 (fun c => by rw [ins_list, List.isEmpty_iff.1 h]), cnt_head]
  rw [ByteArray.data_append, Array.toList_append]
  rfl

theorem cnt_ins_in (a b : ByteArray) (h : a.toList.isEmpty = false) : cnt (insB a b) 256 = if isVar (a ++ b).data.toList then 63 else 0 := by
  rw [ByteArray.toList_eq] at h
  cases hl : a.data.toList with
  | nil => rw [hl] at h; cases h
  | cons c l =>
    rw [cnt_congr (insB a b) (fun x => isVar ((c :: l) ++ [x] ++ b.data.toList)) 256 (fun x => by rw [ins_list, hl]), cnt_in]
    rw [ByteArray.data_append, Array.toList_append, hl]

set_option maxRecDepth 100000 in
set_option maxHeartbeats 2000000 in
theorem walk4 (a b : ByteArray) (ha : a.size ≤ maxLen) (hb : b.size ≤ maxLen) (w : World) :
    Calls Try.prog 4 #[.string a, .string b] w fun e w' => e = .returned (.bool true) ∧ Below w.heap.size w w' := by
  unfold maxLen at ha hb
  by_cases h1 : a.size ≤ 65536
  · by_cases h2 : b.size ≤ 65536
    · go_enter Try.func4, Try.ntmps4
      go_wp2_with (go_at_call 8; go_in)
      refine (sizes_any _).mono ?_
      rintro e w1 ⟨rfl, hb1⟩
      go_wp2
      go_loopw [5, 6] (fun t i wr => ∃ k m : Nat, k ≤ 256 ∧ i = .int .i64 k ∧ t = .int .i64 m ∧ m ≤ k ∧ Hid (m = cnt (insB a b) k) ∧ Below w.heap.size w wr) (fun _ i _ => 256 - (intOf i).toNat)
      case atStart => exact ⟨0, 0, by omega, rfl, rfl, by omega, rfl, hb1⟩
      case round =>
        obtain ⟨k, m, hk, rfl, rfl, hm, Hm, hbel⟩ := hrel
        clear hb1
        by_cases hlt : k < 256
        · have hconv := conv_one k hlt wr
          obtain ⟨one, hone⟩ : ∃ one : ByteArray, one = ⟨#[UInt8.ofNat k]⟩ := ⟨_, rfl⟩
          rw [← hone] at hconv
          have E1 : Hid (isVar (a ++ one ++ b).data.toList = insB a b (UInt8.ofNat k)) := by rw [hone]; rfl
          have hsz : one.size = 1 := by rw [hone]; rfl
          clear hone
          have Hm1 : Hid (cnt (insB a b) (k + 1) = m + if insB a b (UInt8.ofNat k) then 1 else 0) := by rw [Hm.out]; rfl
          have HS : Hid ((a ++ one ++ b).size ≤ 1000000) := by show (a ++ one ++ b).size ≤ 1000000; rw [ByteArray.size_append, ByteArray.size_append]; omega
          have hsa : (a ++ one).size ≤ 65537 := by rw [ByteArray.size_append]; omega
          cases hf : insB a b (UInt8.ofNat k)
          all_goals
            rw [hf] at E1 Hm1
            clear hf Hm
            go_wp2_with fail
            refine (isVar_any _ _ HS.out).mono ?_
            rintro e w2 ⟨rfl, hb2⟩
            rw [E1.out]
            have R : Below w.heap.size w w2 := below_call hbel (Nat.le_refl _) _ hb2
            clear hb2 hbel hconv
            go_wp2
            go_roundw
            case rel => exact ⟨k + 1, cnt (insB a b) (k + 1), by omega, by go_num, by rw [Hm1.out]; simp, cnt_le _ _, rfl, R⟩
            case measure => simp [intOf]; omega
        · have hk6 : k = 256 := by omega
          subst hk6
          clear hlt hk
          cases hemp : a.toList.isEmpty with
          | true =>
            have hc := cnt_ins_head a b hemp
            have HS : Hid (((ByteArray.mk #[95]) ++ b).size ≤ 1000000) := by show ((ByteArray.mk #[95]) ++ b).size ≤ 1000000; rw [ByteArray.size_append]; show 1 + b.size ≤ 1000000; omega
            cases hv : isVar ((ByteArray.mk #[95]) ++ b).data.toList
            all_goals
              rw [hv] at hc
              have V : Hid (isVar ((ByteArray.mk #[95]) ++ b).data.toList = _) := hv
              have hm6 := Hm.out.trans hc
              simp only [if_true, if_false, Bool.false_eq_true] at hm6
              subst hm6
              clear hv hc Hm hm
              go_wp2_with fail
              refine (isVar_any _ _ HS.out).mono ?_
              rintro e w2 ⟨rfl, hb2⟩
              rw [V.out]
              have R : Below w.heap.size w w2 := below_next hbel (Nat.le_refl _) hb2
              clear hb2 hbel
              go_wp2
              go_ret
              exact ⟨rfl, R⟩
          | false =>
            have hc := cnt_ins_in a b hemp
            have HS : Hid ((a ++ b).size ≤ 1000000) := by show (a ++ b).size ≤ 1000000; rw [ByteArray.size_append]; omega
            cases hv : isVar (a ++ b).data.toList
            all_goals
              rw [hv] at hc
              have V : Hid (isVar (a ++ b).data.toList = _) := hv
              have hm6 := Hm.out.trans hc
              simp only [if_true, if_false, Bool.false_eq_true] at hm6
              subst hm6
              clear hv hc Hm hm
              go_wp2_with fail
              refine (isVar_any _ _ HS.out).mono ?_
              rintro e w2 ⟨rfl, hb2⟩
              rw [V.out]
              have R : Below w.heap.size w w2 := below_next hbel (Nat.le_refl _) hb2
              clear hb2 hbel
              go_wp2
              go_ret
              exact ⟨rfl, R⟩
    · go_enter Try.func4, Try.ntmps4
      go_wp2
      all_goals (go_ret; exact ⟨rfl, Below.refl _ _⟩)
  · go_enter Try.func4, Try.ntmps4
    go_wp2
    all_goals (go_ret; exact ⟨rfl, Below.refl _ _⟩)
end Go.Proofs.Qxb6628299a
