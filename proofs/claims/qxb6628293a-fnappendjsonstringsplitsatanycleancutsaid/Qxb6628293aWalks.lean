import Derived.Test.Qxb6628293aRows
import Derived.Test.Qxb6628293aPlain
import Derived.WalkKit
namespace Go.Proofs.Qxb6628293a
open Go.RowKit

theorem ret_bool {a b : Bool} (h : a = b) : Ending.returned (.bool a) = .returned (.bool b) := by rw [h]

set_option maxHeartbeats 1000000 in
theorem lineSep_any (s : ByteArray) (i : Int) (w : World) (_ : s.size ≤ 3000000) (h1 : -2 ≤ i) (h2 : i ≤ 2000000) :
    Calls Try.prog 10 #[.string s, .int .i64 i] w fun e w' => e = .returned (.bool (sepI s.data.toList i)) ∧ w' = w := by
  by_cases hneg : i < 0
  · have HF : Hid (sepI s.data.toList i = false) := by show sepI _ _ = _; unfold sepI; rw [if_pos hneg]
    go_enter Try.func10, Try.ntmps10
    go_wp2
    go_ret
    exact ⟨by rw [HF.out]; rfl, rfl⟩
  · obtain ⟨n, rfl⟩ := Int.eq_ofNat_of_zero_le (show 0 ≤ i by omega)
    by_cases hlong : n + 2 < s.size
    · have HF : Hid (sepI s.data.toList (n : Int) = (s[n].toNat == 226 && s[n + 1].toNat == 128 && (s[n + 2].toNat == 168 || s[n + 2].toNat == 169))) := by
        show sepI _ _ = _
        unfold sepI; rw [if_neg hneg, Int.toNat_natCast, sep_at _ _ (by simpa using hlong)]; rfl
      go_enter Try.func10, Try.ntmps10
      go_wp2
      all_goals
        go_ret
        exact ⟨ret_bool (by rw [HF.out, Bool.eq_iff_iff]; simp; omega), rfl⟩
    · have HF : Hid (sepI s.data.toList (n : Int) = false) := by
        show sepI _ _ = _
        unfold sepI; rw [if_neg hneg, Int.toNat_natCast]; exact sep_short _ _ (by simp; omega)
      go_enter Try.func10, Try.ntmps10
      go_wp2
      go_ret
      exact ⟨by rw [HF.out]; rfl, rfl⟩

set_option maxHeartbeats 1000000 in
theorem straddles_any (a b : ByteArray) (w : World) (ha : a.size ≤ 1048576) (hb : b.size ≤ 1048576) :
    Calls Try.prog 5 #[.string a, .string b] w fun e w' => (e = .returned (.bool true) ∧ w' = w) ∨ (e = .returned (.bool false) ∧ Hid (clean a.data.toList b.data.toList) ∧ w' = w) := by
  have HS : Hid ((a ++ b).size ≤ 3000000) := by show (a ++ b).size ≤ 3000000; rw [ByteArray.size_append]; omega
  have hL : (a ++ b).data.toList = a.data.toList ++ b.data.toList := by rw [ByteArray.data_append, Array.toList_append]
  have HL : Hid ((a ++ b).data.toList = a.data.toList ++ b.data.toList) := hL
  clear hL
  go_enter Try.func5, Try.ntmps5
  go_wp2
  go_loop [6] (fun t => ∃ k : Nat, 1 ≤ k ∧ k ≤ 3 ∧ t = .int .i64 k ∧ Hid (∀ m : Nat, 1 ≤ m → m < k → sepI (a ++ b).data.toList ((a.size : Int) - m) = false)) (fun t => 3 - (intOf t).toNat)
  case atStart => exact ⟨1, by omega, by omega, rfl, fun m h1 h2 => by omega⟩
  case round =>
    obtain ⟨k, hk1, hk3, rfl, Hall⟩ := hrel
    by_cases hlt : k ≤ 2
    · cases hv : sepI (a ++ b).data.toList ((a.size : Int) - k)
      all_goals
        have HV : Hid (sepI (a ++ b).data.toList ((a.size : Int) - k) = _) := hv
        clear hv
        go_wp2_with fail
        refine (lineSep_any _ _ _ HS.out (by omega) (by omega)).mono ?_
        rintro e w1 ⟨rfl, rfl⟩
        rw [HV.out]
        go_wp2
      · go_round
        case rel => exact ⟨k + 1, by omega, by omega, by go_num, fun m h1 h2 => by
          rcases Nat.lt_succ_iff_lt_or_eq.1 h2 with h | h
          · exact Hall.out m h1 h
          · subst h; exact HV.out⟩
        case measure => simp [intOf]; omega
      · go_ret
        exact .inl ⟨rfl, rfl⟩
    · have hk : k = 3 := by omega
      subst hk
      go_wp2
      go_ret
      exact .inr ⟨rfl, clean_of _ _ fun m h1 h2 => by have := Hall.out m h1 h2; rw [HL.out] at this; simpa using this, rfl⟩
end Go.Proofs.Qxb6628293a
