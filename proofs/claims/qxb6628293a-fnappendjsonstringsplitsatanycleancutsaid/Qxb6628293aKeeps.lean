import Derived.Test.Qxb6628293aEsc
import Derived.ArgAppend
namespace Go.Proofs.Qxb6628293a
open Go.RowKit

/-- The bitmap's block. -/
abbrev stops : Obj := .cells #[.int .u64 21474836479, .int .u64 268435456, .int .u64 0, .int .u64 17179869184] 30

theorem owns_mono {base base' : Nat} {e : TypeId} {size n : Nat} {v : Value} {xs : List Value} {w : World} (h : w.ownsRow base e size v n xs) (hb : base' ≤ base) : w.ownsRow base' e size v n xs := by
  refine ⟨h.1, ?_⟩
  rcases h.2 with h | ⟨g, cap, cur, h1, h2, h3⟩
  · exact .inl h
  · exact .inr ⟨g, cap, cur, h1, Nat.le_trans hb h2, h3⟩

/-- The bitmap's words. -/
def stopAt (m : Nat) : Int := [21474836479, 268435456, 0, 17179869184].getD m 0

theorem stop_cell {w wr : World} (h : Below (w.heap.size + 1) (w.alloc stops) wr) {m : Nat} (hm : m < 4) : wr.cell? ⟨w.heap.size, m, none⟩ = some (.int .u64 (stopAt m)) := by
  rw [h.cell (p := ⟨w.heap.size, m, none⟩) (Nat.lt_succ_self _), World.cell?_alloc_mark w _ 30 (0, 0) m]
  match m, hm with
  | 0, _ => rfl
  | 1, _ => rfl
  | 2, _ => rfl
  | 3, _ => rfl

/-- What the loop of AppendJSONString keeps. -/
def Keeps (l L out : List UInt8) (k i : Nat) : Prop := out ++ (L.drop k).take (i - k) ++ encS 0 (L.drop i) = l ++ 34 :: encS 0 L

theorem keeps_len {l L out : List UInt8} {k i : Nat} (h : Keeps l L out k i) : out.length ≤ l.length + 1 + 6 * L.length := by
  have := congrArg List.length h
  have e := (enc_len L 0).2
  simp at this
  omega

theorem seg_next (L : List UInt8) (k i : Nat) (hk : k ≤ i) (hi : i < L.length) : (L.drop k).take (i + 1 - k) = (L.drop k).take (i - k) ++ [L[i]] := by
  have e : i + 1 - k = (i - k) + 1 := by omega
  rw [e, List.take_succ_eq_append_getElem (by simp; omega)]
  congr 2
  rw [List.getElem_drop]
  congr 1
  omega

theorem keeps_plain {l L out : List UInt8} {k i : Nat} (h : Keeps l L out k i) (hk : k ≤ i) (hi : i < L.length) (hsep : sep (L.drop i) = false) (hspec : spec L[i] = false) : Keeps l L out k (i + 1) := by
  unfold Keeps at *
  rw [← h, enc_drop_cons L i hi, if_neg (by rw [hsep]; decide), seg_next L k i hk hi, one, if_neg (by rw [hspec]; decide)]
  simp

theorem keeps_esc {l L out : List UInt8} {k i : Nat} (h : Keeps l L out k i) (hi : i < L.length) (hsep : sep (L.drop i) = false) (hspec : spec L[i] = true) : Keeps l L (out ++ (L.drop k).take (i - k) ++ escB L[i]) (i + 1) (i + 1) := by
  unfold Keeps at *
  rw [← h, enc_drop_cons L i hi, if_neg (by rw [hsep]; decide), one, if_pos hspec]
  simp

theorem keeps_sep {l L out : List UInt8} {k i : Nat} (h : Keeps l L out k i) (hi : i + 2 < L.length) (hsep : sep (L.drop i) = true) : Keeps l L (out ++ (L.drop k).take (i - k) ++ lineEsc L[i + 2]) (i + 3) (i + 3) := by
  unfold Keeps at *
  rw [← h, enc_drop_cons L i (by omega), if_pos hsep, third_at L i hi]
  simp

theorem keeps_end {l L out : List UInt8} {k i : Nat} (h : Keeps l L out k i) (hi : i = L.length) : out ++ L.drop k ++ [34] = ans l L := by
  unfold Keeps at h
  subst hi
  rw [List.take_of_length_le (by simp), List.drop_of_length_le (Nat.le_refl _)] at h
  simp only [encS, List.append_nil] at h
  rw [h]
  simp [ans]

theorem stop_test (c : Nat) (hc : c < 256) : (bits .and .u64 (stopAt (c / 64)) (IntKind.u64.wrap (2 ^ (c % 64))) == 0) = !(decide (c < 32 ∨ c = 34 ∨ c = 92) || c == 226) := by
  have : ∀ m : Fin 256, (bits .and .u64 (stopAt (m.val / 64)) (IntKind.u64.wrap (2 ^ (m.val % 64))) == 0) = !(decide (m.val < 32 ∨ m.val = 34 ∨ m.val = 92) || m.val == 226) := by decide +kernel
  exact this ⟨c, hc⟩

theorem andNot_test (c : Nat) (hc : c < 256) : (bits .andNot .u8 (c : Int) 1 != 168) = !(c == 168 || c == 169) := by
  have : ∀ m : Fin 256, (bits .andNot .u8 (m.val : Int) 1 != 168) = !(m.val == 168 || m.val == 169) := by decide +kernel
  exact this ⟨c, hc⟩

theorem ext_list (s : ByteArray) (k i : Nat) : (s.extract k i).data.toList = (s.data.toList.drop k).take (i - k) := by
  simp
end Go.Proofs.Qxb6628293a
