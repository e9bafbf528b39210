import Derived.Test.Qxb6628299aWalks
namespace Go.Proofs.Qxb6628299a
open Go.RowKit

theorem below_call {B : Nat} {w wr w1 : World} (h : Below B w wr) (hB : B ≤ w.heap.size) (o : Obj) (h1 : Below (wr.alloc o).heap.size (wr.alloc o) w1) : Below B w w1 := by
  have hs := h.size
  exact (h.alloc (by omega) o).trans (h1.mono (by simp; omega))

theorem below_next {B : Nat} {w wr w1 : World} (h : Below B w wr) (hB : B ≤ w.heap.size) (h1 : Below wr.heap.size wr w1) : Below B w w1 := by
  have hs := h.size
  exact h.trans (h1.mono (by omega))

/-- 'string([]byte{byte(c)})'. -/
theorem conv_one (k : Nat) (hk : k < 256) (wr : World) :
    (convert 25 9 (.slice (some ⟨wr.heap.size, 0, none⟩) 1 1)).run Try.prog (wr.alloc (.cells #[.int .u8 (k : Int)] 5)) = .ok (.string ⟨#[UInt8.ofNat k]⟩) (wr.alloc (.cells #[.int .u8 (k : Int)] 5)) := by
  have h := run_convert_bytes_back (P := Try.prog) (wr.alloc (.cells #[.int .u8 (k : Int)] 5)) 25 9 5 ⟨wr.heap.size, 0, none⟩ 1 [UInt8.ofNat k] Try.underlying25 Try.underlying5 Try.underlying9 (by
    intro j hj
    have hj0 : j = 0 := by simp at hj; omega
    subst hj0
    have e := World.cell?_alloc_mark wr #[.int .u8 (k : Int)] 5 (0, 0) 0
    have e2 : (UInt8.ofNat k).toNat = k := by simp [UInt8.toNat_ofNat']; omega
    simp only [Addr.add, Nat.zero_add, List.getElem_cons_zero, e2]
    exact e)
  exact h

theorem one_fst (k : Nat) : isVar (ByteArray.mk #[UInt8.ofNat k]).data.toList = fstB (UInt8.ofNat k) := isVar_one _
theorem one_fol (k : Nat) : isVar ((ByteArray.mk #[95]) ++ (ByteArray.mk #[UInt8.ofNat k])).data.toList = folB (UInt8.ofNat k) := by
  rw [ByteArray.data_append, Array.toList_append]
  exact (isVar_under [UInt8.ofNat k]).trans (by simp)

set_option maxRecDepth 100000 in
set_option maxHeartbeats 1000000 in
theorem sizes_any (w : World) :
    Calls Try.prog 6 #[] w fun e w' => e = .returned (.bool true) ∧ Below w.heap.size w w' := by
  go_enter Try.func6, Try.ntmps6
  go_wp2
  go_loopw [1, 2, 3, 4] (fun a b o i wr => ∃ k m n : Nat, k ≤ 256 ∧ i = .int .i64 k ∧ a = .int .i64 m ∧ b = .int .i64 n ∧ o = .bool true ∧ m ≤ k ∧ n ≤ k ∧ Hid (m = cnt fstB k) ∧ Hid (n = cnt folB k) ∧ Below w.heap.size w wr) (fun _ _ _ i _ => 256 - (intOf i).toNat)
  case atStart => exact ⟨0, 0, 0, by omega, rfl, rfl, rfl, rfl, by omega, by omega, rfl, rfl, Below.refl _ _⟩
  case round =>
    obtain ⟨k, m, n, hk, rfl, rfl, rfl, rfl, hm, hn, Hm, Hn, hbel⟩ := hrel
    by_cases hlt : k < 256
    · have hconv := conv_one k hlt wr
      obtain ⟨one, hone⟩ : ∃ one : ByteArray, one = ⟨#[UInt8.ofNat k]⟩ := ⟨_, rfl⟩
      rw [← hone] at hconv
      have E1 : Hid (isVar one.data.toList = fstB (UInt8.ofNat k)) := by rw [hone]; exact one_fst k
      have E2 : Hid (isVar ((ByteArray.mk #[95]) ++ one).data.toList = folB (UInt8.ofNat k)) := by rw [hone]; exact one_fol k
      have hsz : one.size = 1 := by rw [hone]; rfl
      have hsz1 : ((ByteArray.mk #[95]) ++ one).size = 2 := by rw [ByteArray.size_append, hsz]; rfl
      clear hone
      have Hm1 : Hid (cnt fstB (k + 1) = m + if fstB (UInt8.ofNat k) then 1 else 0) := by rw [Hm.out]; rfl
      have Hn1 : Hid (cnt folB (k + 1) = n + if folB (UInt8.ofNat k) then 1 else 0) := by rw [Hn.out]; rfl
      have HS : Hid (one.size ≤ 1000000 ∧ ((ByteArray.mk #[95]) ++ one).size ≤ 1000000) := ⟨by omega, by omega⟩
      clear hsz1
      cases hf : fstB (UInt8.ofNat k) <;> cases hg : folB (UInt8.ofNat k)
      all_goals
        rw [hf] at E1 Hm1
        rw [hg] at E2 Hn1
      case true.false => rw [fol_of_fst _ hf] at hg; cases hg
      all_goals
        clear hf hg Hm Hn
        go_wp2_with fail
        refine (isVar_any _ _ HS.out.1).mono ?_
        rintro e w1 ⟨rfl, hb1⟩
        rw [E1.out]
        go_wp2_with fail
        refine (isVar_any _ _ HS.out.2).mono ?_
        rintro e w2 ⟨rfl, hb2⟩
        rw [E2.out]
        have R : Below w.heap.size w w2 := below_next (below_call hbel (Nat.le_refl _) _ hb1) (Nat.le_refl _) hb2
        clear hb1 hb2 hbel hconv
        go_wp2
        go_roundw
        case rel => exact ⟨k + 1, cnt fstB (k + 1), cnt folB (k + 1), by omega, by go_num, by rw [Hm1.out]; simp, by rw [Hn1.out]; simp, rfl, cnt_le _ _, cnt_le _ _, rfl, rfl, R⟩
        case measure => simp [intOf]; omega
    · have hk6 : k = 256 := by omega
      subst hk6
      have hm5 : m = 53 := Hm.out.trans cnt_fst
      have hn6 : n = 63 := Hn.out.trans cnt_fol
      subst hm5 hn6
      go_wp2
      go_ret
      exact ⟨rfl, hbel⟩
end Go.Proofs.Qxb6628299a
