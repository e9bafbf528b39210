import Derived.Test.Qxb6628299aRows
import Derived.Test.Qxb6628299aPlain
import Derived.WalkKit
import Derived.Laws.IdiomStrings
namespace Go.Proofs.Qxb6628299a
open Go.RowKit

theorem conv_bytes (s : ByteArray) (w : World) : ∃ cap C fr, (convert 9 25 (.string s)).run Try.prog w = .ok (.slice (some ⟨w.heap.size, 0, none⟩) s.size cap) (w.drew.alloc (.cells C 5 fr)) ∧
    ∀ k (h : k < s.size), C[k]? = some (.int .u8 (s[k].toNat : Int)) := by
  refine ⟨_, _, _, run_bytes_of_string w 9 25 5 s Try.underlying9 Try.underlying25 Try.underlying5, ?_⟩
  intro k h
  simp [bytesRow, Array.getElem?_append, h]
  rfl

set_option maxHeartbeats 2000000 in
theorem isVar_any (s : ByteArray) (w : World) (hs : s.size ≤ 1000000) :
    Calls Try.prog 7 #[.string s] w fun e w' => e = .returned (.bool (isVar s.data.toList)) ∧ Below w.heap.size w w' := by
  obtain ⟨cap, C, fr, hrun, hC⟩ := conv_bytes s w
  go_enter Try.func7, Try.ntmps7
  go_wp2
  go_loop [9] (fun i => ∃ k : Nat, k ≤ s.size ∧ i = .int .i64 k ∧ ∀ j (hj : j < k) (hs : j < s.size), okB j s[j] = true) (fun i => s.size - (intOf i).toNat)
  case atStart => exact ⟨0, Nat.zero_le _, rfl, fun j hj => absurd hj (Nat.not_lt_zero j)⟩
  case round =>
    obtain ⟨k, hk, rfl, hok⟩ := hrel
    have H : Hid (∀ j (hj : j < k) (hs : j < s.size), okB j s[j] = true) := hok
    clear hok
    have HC : Hid (∀ k (h : k < s.size), C[k]? = some (.int .u8 (s[k].toNat : Int))) := hC
    clear hC
    by_cases hlt : k < s.size
    · have hcell : (w.alloc (.cells C 5 fr)).cell? ⟨w.heap.size, k, none⟩ = some (.int .u8 (s[k].toNat : Int)) := (World.cell?_alloc_mark w C 5 fr k).trans (HC.out k hlt)
      cases hb : okB k s[k] with
      | true =>
        have HB : Hid (okB k s[k] = true) := hb
        clear hb
        rcases ok_cases k s[k] HB.out with h | ⟨h1, h2⟩ | ⟨h1, h2⟩ | ⟨h0, h1, h2⟩
        all_goals
          go_wp2
          go_round
          case rel => exact ⟨k + 1, by omega, by go_num, fun j hj hjs => by
            rcases Nat.lt_succ_iff_lt_or_eq.1 hj with h' | h'
            · exact H.out j h' hjs
            · subst h'; exact HB.out⟩
          case measure => simp [intOf]; omega
      | false =>
        have HB : Hid (okB k s[k] = false) := hb
        clear hb
        have hfin : isVar s.data.toList = false := isVar_bad s.data.toList k (by simpa using hlt) HB.out
        have HF : Hid (isVar s.data.toList = false) := hfin
        clear hfin
        rcases bad_cases k s[k] HB.out with h | ⟨h1, h2, rfl⟩ | ⟨h1, h2⟩ | ⟨h1, h2⟩ | h | h
        all_goals
          go_wp2
          all_goals first
            | (go_ret; exact ⟨by rw [HF.out]; rfl, Below.drew (Below.alloc (Below.refl _ _) (Nat.le_refl _) _)⟩)
            | (exfalso; rename_i hx; simp at hx; omega)
    · have hkk : k = s.size := by omega
      have HF : Hid (isVar s.data.toList = !s.toList.isEmpty) := by
        have hall := H.out
        rw [ByteArray.toList_eq]
        cases he : s.data.toList with
        | nil => rfl
        | cons c l =>
          rw [← he]
          rw [isVar_good s.data.toList (by rw [he]; simp) (fun j hj => hall j (by have : j < s.size := by simpa using hj
                                                                                  omega) (by simpa using hj))]
          rw [he]; rfl
      clear hkk
      go_wp2
      go_ret
      exact ⟨by rw [HF.out]; rfl, Below.drew (Below.alloc (Below.refl _ _) (Nat.le_refl _) _)⟩
end Go.Proofs.Qxb6628299a
