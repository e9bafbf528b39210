import Derived.Test.Qxb6628293aKeeps
namespace Go.Proofs.Qxb6628293a
open Go.RowKit

theorem hide_of {p : Prop} (h : p) : Hid p := h

theorem hexI (c : Nat) : ∀ h, (ByteArray.mk #[48, 49, 50, 51, 52, 53, 54, 55, 56, 57, 97, 98, 99, 100, 101, 102])[((c : Int) % 16).toNat]'h = hexD (c % 16) := fun h => by
  have e : ((c : Int) % 16).toNat = c % 16 := by omega
  have g := hex_at (c % 16) (by omega) (by rw [← e]; exact h)
  rw [← g]; congr 1

theorem lim5 {a : List UInt8} (h : a.length ≤ 1000000000) : a.length + (ByteArray.mk #[92, 117, 50, 48, 50]).size ≤ maxLen ∧ a.length + (ByteArray.mk #[92, 117, 50, 48, 50]).size ≤ 140737488355328 := by
  have e : (ByteArray.mk #[92, 117, 50, 48, 50]).size = 5 := rfl
  rw [e]; unfold maxLen; omega

theorem lim1 {a : List UInt8} (h : a.length ≤ 1000000000) : a.length + 1 ≤ maxLen ∧ (a.length + 1) * 1 ≤ 140737488355328 := by
  unfold maxLen; omega

theorem lim6 {a : List UInt8} (h : a.length ≤ 1000000000) : (a ++ [92, 117, 50, 48, 50]).length + 1 ≤ maxLen ∧ ((a ++ [92, 117, 50, 48, 50]).length + 1) * 1 ≤ 140737488355328 := by
  simp; unfold maxLen; omega

set_option maxRecDepth 100000 in
set_option maxHeartbeats 2000000 in
theorem append_any (ao : Option Addr) (n : Nat) (l : List UInt8) (s : ByteArray) (w : World) (hr : Row w ao n n l) (hn : n ≤ 1048576) (hs : s.size ≤ 2097152) :
    Calls Try.prog 7 #[.slice ao n n, .string s] w fun e w' => ∃ v', e = .returned v' ∧ w'.ownsRow (w.heap.size + 1) 5 1 v' (ans l s.data.toList).length (bc (ans l s.data.toList)) ∧ Below w.heap.size w w' := by
  obtain ⟨i0, hi, hz0, hz1, hz2⟩ := info_parts Try.info5
  have Hnone : Hid (ao = none → n = 0 ∧ n = 0) := fun e => by have := hr.nil e; omega
  have Hll : Hid ((bc l).length = n * 1) := by show (bc l).length = n * 1; rw [bc_len, hr.len]; omega
  have Holds : Hid (∀ b, ao = some b → ∀ j u, (bc l)[j]? = some u → ((w.alloc stops).alloc (.cells #[.int .u8 34] 5)).cell? (b.add j) = some u) := by
    intro b hb j u hj
    have hjl : j < l.length := by
      have := (List.getElem?_eq_some_iff.1 hj).1
      simpa [bc] using this
    obtain ⟨b0, off, e0, hlt, hc⟩ := hr.cells (by rw [← hr.len]; omega)
    rw [hb] at e0
    cases e0
    rw [Addr.add_lit, World.cell?_alloc_past _ _ _ (by simp; omega), World.cell?_alloc_past _ _ _ (by simpa using hlt), hc j hjl, ← hj, bc_get l j hjl]
  have Hlit : Hid (∀ j u, (bc [34])[j]? = some u → ((w.alloc stops).alloc (.cells #[.int .u8 34] 5)).cell? ((⟨w.heap.size + 1, 0, none⟩ : Addr).add j) = some u) := by
    have h := lit_cell (w.alloc stops) #[.int .u8 34] (bc [34]) rfl
    have e : (w.alloc stops).heap.size = w.heap.size + 1 := by simp
    rw [e] at h
    exact h
  have HL : Hid (l.length = n) := hr.len
  clear hr
  go_enter Try.func7, Try.ntmps7
  go_wp2_with (at_builtin; refine wpList_append_grows _ rfl (.tmp 10) (.tmp 11) 22 rfl 5 i0 (.int .u8 0) 1 1 Try.underlying22 hi hz0 hz1 hz2 rfl (by decide) ao n n (bc l) rfl Hnone.out Hll.out Holds.out ⟨w.heap.size + 1, 0, none⟩ 1 1 (bc [34]) rfl rfl Hlit.out (bc_one _) (by omega) (by unfold maxLen; omega) (by omega) ?_; intro v1 w1 hown1 hgrow1)
  have hown2 : w1.ownsRow (w.heap.size + 1) 5 1 v1 (l ++ [34]).length (bc (l ++ [34])) := by
    have h := owns_mono hown1 (show w.heap.size + 1 ≤ ((w.alloc stops).alloc (.cells #[.int .u8 34] 5)).heap.size by simp)
    rw [List.length_append, HL.out, bc_append]; exact h
  have hB1 : Below (w.heap.size + 1) (w.alloc stops) w1 := ((Below.refl _ _).alloc (by simp) _).grown hgrow1 (by simp) (fun k hk => by cases hk)
  clear hown1 hgrow1 Holds Hlit Hll Hnone
  go_loopw [0, 6, 7] (fun v a b wr => ∃ (out : List UInt8) (k i : Nat), k ≤ i ∧ i ≤ s.size ∧ a = .int .i64 k ∧ b = .int .i64 i ∧ wr.ownsRow (w.heap.size + 1) 5 1 v out.length (bc out) ∧ Hid (Keeps l s.data.toList out k i) ∧ Below (w.heap.size + 1) (w.alloc stops) wr) (fun _ _ b _ => s.size - (intOf b).toNat)
  case atStart => exact ⟨l ++ [34], 0, 0, Nat.le_refl _, Nat.zero_le _, rfl, rfl, hown2, by show _ = _; simp, hB1⟩
  case round =>
    obtain ⟨out, k, i, hki, his, rfl, rfl, hown, HK, hbel⟩ := hrel
    clear hown2 hB1
    have hol := keeps_len HK.out
    have hsl : s.data.toList.length = s.size := by simp
    rw [HL.out, hsl] at hol
    clear hsl
    have HO : Hid (wr.ownsRow (w.heap.size + 1) 5 1 u0 out.length (bc out)) := hown
    have HB : Hid (Below (w.heap.size + 1) (w.alloc stops) wr) := hbel
    clear hown hbel
    by_cases hlt : i < s.size
    · have hq : (0 : Int) ≤ (s[i].toNat : Int) / 64 ∧ (s[i].toNat : Int) / 64 < 4 := by have := s[i].toNat_lt; omega
      have hcell : wr.cell? ⟨w.heap.size, s[i].toNat / 64, none⟩ = some (.int .u64 (stopAt (s[i].toNat / 64))) := stop_cell HB.out (by omega)
      have htest := stop_test s[i].toNat s[i].toNat_lt
      have hLi : i < s.data.toList.length := by simpa using hlt
      have HLi : Hid (s.data.toList[i] = s[i]) := by rfl
      have hxs : (s.extract k i).size = i - k := by simp; omega
      have Hx : Hid (out.length + (s.extract k i).size ≤ maxLen ∧ out.length + (s.extract k i).size ≤ 140737488355328 ∧ w.heap.size + 1 ≤ wr.heap.size) := ⟨by rw [hxs]; unfold maxLen; omega, by rw [hxs]; omega, by have := HB.out.size; simpa using this⟩
      have Hl : Hid (((s.data.toList.drop k).take (i - k)).length = (s.extract k i).size) := by show _ = _; rw [hxs]; simp; omega
      have Hl2 : Hid ((out ++ (s.data.toList.drop k).take (i - k)).length ≤ 1000000000) := by show _ ≤ _; rw [List.length_append, Hl.out, hxs]; omega
      clear hxs
      cases hsp : spec s[i] with
      | true =>
        have hn226 : ¬ s[i].toNat = 226 := by simp only [spec, decide_eq_true_eq] at hsp; omega
        have hsep : sep (s.data.toList.drop i) = false := by
          by_cases h : i + 2 < s.data.toList.length
          · rw [sep_at _ _ h, HLi.out]; simp [hn226]
          · exact sep_short _ _ (by omega)
        have HK2 := keeps_esc HK.out hLi hsep (by rw [HLi.out]; exact hsp)
        rw [HLi.out] at HK2
        have HK3 : Hid (Keeps _ _ _ _ _) := HK2
        rw [show decide (s[i].toNat < 32 ∨ s[i].toNat = 34 ∨ s[i].toNat = 92) = spec s[i] from rfl, hsp] at htest
        simp only [Bool.true_or, Bool.not_true] at htest
        have hne : ((s[i].toNat : Int) == 226) = false := beq_eq_false_iff_ne.2 (by omega)
        have HSP : Hid (spec s[i] = true) := hsp
        clear hsp hsep HK2 hn226
        go_wp2_with (at_builtin; refine Lib.wpList_append_own_string _ rfl (.tmp 72) (.tmp 76) 22 9 rfl (w.heap.size + 1) 5 i0 Try.underlying22 Try.underlying9 hi hz0 hz1 hz2 u0 out.length (bc out) rfl HO.out (s.extract k i) rfl Hx.out.1 Hx.out.2.1 Hx.out.2.2 ?_; intro v2 w2 hown2 hgrow2 _)
        have R2 := own_next (add := (s.data.toList.drop k).take (i - k)) HO.out Hx.out.2.2 Hl.out (by rw [← ext_list]; exact hown2) hgrow2 (Below.refl _ _)
        clear hown2 hgrow2
        refine (esc_any v2 s[i] _ (w.heap.size + 1) w2 HSP.out R2.1 (Nat.le_trans Hx.out.2.2 R2.2.size) Hl2.out).mono ?_
        rintro e w3 ⟨v3, rfl, hown3, hb3⟩
        have HB3 : Hid (Below (w.heap.size + 1) (w.alloc stops) w3) := HB.out.trans (R2.2.trans hb3)
        have HO3 : Hid (w3.ownsRow (w.heap.size + 1) 5 1 v3 _ _) := hown3
        clear R2 hb3 hcell htest hown3
        go_wp2
        go_roundw
        case rel => exact ⟨_, i + 1, i + 1, Nat.le_refl _, by omega, by go_num, by go_num, HO3.out, HK3, HB3.out⟩
        case measure => simp [intOf]; omega
      | false =>
        rw [show decide (s[i].toNat < 32 ∨ s[i].toNat = 34 ∨ s[i].toNat = 92) = spec s[i] from rfl, hsp] at htest
        simp only [Bool.false_or] at htest
        by_cases h226 : s[i].toNat = 226
        · rw [h226] at htest
          simp only [BEq.rfl, Bool.not_true] at htest
          have e226 : ((s[i].toNat : Int) == 226) = true := beq_iff_eq.2 (by omega)
          have H226 : Hid (s[i].toNat = 226) := h226
          rw [← h226] at htest
          cases hsep : sep (s.data.toList.drop i) with
          | false =>
            have HK2 : Hid (Keeps l s.data.toList out k (i + 1)) := keeps_plain HK.out hki hLi hsep (by rw [HLi.out]; exact hsp)
            clear hsp h226
            by_cases h2 : i + 2 < s.size
            · have hsa := sep_at s.data.toList i (by simpa using h2)
              rw [hsep] at hsa
              have hsa' : (s[i].toNat == 226 && s[i + 1].toNat == 128 && (s[i + 2].toNat == 168 || s[i + 2].toNat == 169)) = false := hsa.symm
              rw [show (s[i].toNat == 226) = true from beq_iff_eq.2 H226.out, Bool.true_and] at hsa'
              clear hsep hsa
              by_cases h128 : s[i + 1].toNat = 128
              · have e128 : ((s[i + 1].toNat : Int) != 128) = false := by simp; omega
                rw [show (s[i + 1].toNat == 128) = true from beq_iff_eq.2 h128, Bool.true_and] at hsa'
                have hlast := andNot_test s[i + 2].toNat s[i + 2].toNat_lt
                rw [hsa'] at hlast
                simp only [Bool.not_false] at hlast
                clear h128 hsa'
                go_wp2
                go_roundw
                case rel => exact ⟨out, k, i + 1, by omega, by omega, rfl, by go_num, HO.out, HK2, HB.out⟩
                case measure => simp [intOf]; omega
              · have e128 : ((s[i + 1].toNat : Int) != 128) = true := by simp; omega
                clear h128 hsa'
                go_wp2
                go_roundw
                case rel => exact ⟨out, k, i + 1, by omega, by omega, rfl, by go_num, HO.out, HK2, HB.out⟩
                case measure => simp [intOf]; omega
            · clear hsep
              go_wp2
              go_roundw
              case rel => exact ⟨out, k, i + 1, by omega, by omega, rfl, by go_num, HO.out, HK2, HB.out⟩
              case measure => simp [intOf]; omega
          | true =>
            have h2 : i + 2 < s.size := by
              refine Nat.lt_of_not_le fun h => ?_
              rw [sep_short s.data.toList i (by simp; omega)] at hsep
              cases hsep
            have hsa : sep (s.data.toList.drop i) = (s[i].toNat == 226 && s[i + 1].toNat == 128 && (s[i + 2].toNat == 168 || s[i + 2].toNat == 169)) := sep_at s.data.toList i (by simpa using h2)
            rw [hsep] at hsa
            have h3 := hsa.symm
            rw [Bool.and_eq_true, Bool.and_eq_true] at h3
            have e128 : ((s[i + 1].toNat : Int) != 128) = false := by have := h3.1.2; simp at this ⊢; omega
            have hlast := andNot_test s[i + 2].toNat s[i + 2].toNat_lt
            rw [h3.2] at hlast
            simp only [Bool.not_true] at hlast
            have HK2 : Hid (Keeps l s.data.toList (out ++ (s.data.toList.drop k).take (i - k) ++ lineEsc s[i + 2]) (i + 3) (i + 3)) := keeps_sep HK.out (by simpa using h2) hsep
            clear hsp h226 hsep hsa h3
            have hand := and15 s[i + 2].toNat s[i + 2].toNat_lt
            have q2 : (0 : Int) ≤ (s[i + 2].toNat : Int) % 16 ∧ (s[i + 2].toNat : Int) % 16 < 16 := by omega
            have X2 := hexI s[i + 2].toNat
            go_wp2_with (first
              | (at_builtin; refine Lib.wpList_append_own_string _ rfl (.tmp 53) (.tmp 57) 22 9 rfl (w.heap.size + 1) 5 i0 Try.underlying22 Try.underlying9 hi hz0 hz1 hz2 u0 out.length (bc out) rfl HO.out (s.extract k i) rfl Hx.out.1 Hx.out.2.1 Hx.out.2.2 ?_; intro v2 w2 hown2 hgrow2 _; have R2 := hide_of (own_next (add := (s.data.toList.drop k).take (i - k)) HO.out Hx.out.2.2 Hl.out (by rw [← ext_list]; exact hown2) hgrow2 (Below.refl _ _)); have hz2' := Nat.le_trans Hx.out.2.2 R2.out.2.size; clear hown2 hgrow2)
              | (at_builtin; refine Lib.wpList_append_own_string _ rfl (.tmp 59) (.const (.string ⟨#[92, 117, 50, 48, 50]⟩)) 22 9 rfl (w.heap.size + 1) 5 i0 Try.underlying22 Try.underlying9 hi hz0 hz1 hz2 v2 _ _ rfl R2.out.1 ⟨#[92, 117, 50, 48, 50]⟩ rfl (lim5 Hl2.out).1 (lim5 Hl2.out).2 hz2' ?_; intro v3 w3 hown3 hgrow3 _; have R3 := hide_of (own_next (add := [92, 117, 50, 48, 50]) R2.out.1 hz2' rfl hown3 hgrow3 (Below.refl _ _)); have hz3' := Nat.le_trans hz2' R3.out.2.size; clear hown3 hgrow3)
              | (at_builtin; refine wpList_append_own _ rfl (.tmp 61) (.tmp 68) 22 rfl (w.heap.size + 1) 5 i0 (.int .u8 0) 1 1 Try.underlying22 hi hz0 hz1 hz2 rfl (by decide) v3 _ _ rfl (R3.out.1.alloc _) ⟨w3.heap.size, 0, none⟩ 1 1 (bc [hexD (s[i + 2].toNat % 16)]) rfl rfl (lit_cell _ _ _ rfl) (bc_one _) (lim6 Hl2.out).1 (lim6 Hl2.out).2 (by simp; omega) ?_; intro v4 w4 hown4 hgrow4 _; have R4 := hide_of (own_next (add := [hexD (s[i + 2].toNat % 16)]) R3.out.1 hz3' rfl hown4 hgrow4 ((Below.refl _ _).alloc hz3' _)); clear hown4 hgrow4))
            have e6 : out ++ (s.data.toList.drop k).take (i - k) ++ lineEsc s[i + 2] = ((out ++ (s.data.toList.drop k).take (i - k)) ++ [92, 117, 50, 48, 50]) ++ [hexD (s[i + 2].toNat % 16)] := by simp [lineEsc]
            go_roundw
            case rel => exact ⟨_, i + 3, i + 3, Nat.le_refl _, by omega, by go_num, by go_num, by rw [e6]; exact R4.out.1, HK2, HB.out.trans (R2.out.2.trans (R3.out.2.trans R4.out.2))⟩
            case measure => simp [intOf]; omega
        · have e226 : (s[i].toNat == 226) = false := beq_eq_false_iff_ne.2 h226
          rw [e226] at htest
          simp only [Bool.not_false] at htest
          have hsep : sep (s.data.toList.drop i) = false := by
            by_cases h : i + 2 < s.data.toList.length
            · rw [sep_at _ _ h, HLi.out, e226]; simp
            · exact sep_short _ _ (by omega)
          have HK2 : Hid (Keeps l s.data.toList out k (i + 1)) := keeps_plain HK.out hki hLi hsep (by rw [HLi.out]; exact hsp)
          clear hsep hsp h226 e226
          go_wp2
          go_roundw
          case rel => exact ⟨out, k, i + 1, by omega, by omega, rfl, by go_num, HO.out, HK2, HB.out⟩
          case measure => simp [intOf]; omega
    · have hii : i = s.size := by omega
      have HE : Hid (out ++ s.data.toList.drop k ++ [34] = ans l s.data.toList) := keeps_end HK.out (by rw [hii]; simp)
      have hxs : (s.extract k s.size).size = s.size - k := by simp
      have Hl : Hid ((s.data.toList.drop k).length = (s.extract k s.size).size) := by show _ = _; rw [hxs]; simp
      have Hl2 : Hid ((out ++ s.data.toList.drop k).length ≤ 1000000000) := by show _ ≤ _; rw [List.length_append, Hl.out, hxs]; omega
      have Hx : Hid (out.length + (s.extract k s.size).size ≤ maxLen ∧ out.length + (s.extract k s.size).size ≤ 140737488355328 ∧ w.heap.size + 1 ≤ wr.heap.size) := ⟨by rw [hxs]; unfold maxLen; omega, by rw [hxs]; omega, by have := HB.out.size; simpa using this⟩
      have hks : k ≤ s.size := by omega
      have Hee : Hid ((s.extract k s.size).data.toList = s.data.toList.drop k) := by show _ = _; rw [ext_list, List.take_of_length_le (by simp)]
      clear hxs hii
      go_wp2_with (first
        | (at_builtin; refine Lib.wpList_append_own_string _ rfl (.tmp 83) (.tmp 86) 22 9 rfl (w.heap.size + 1) 5 i0 Try.underlying22 Try.underlying9 hi hz0 hz1 hz2 u0 out.length (bc out) rfl HO.out (s.extract k s.size) rfl Hx.out.1 Hx.out.2.1 Hx.out.2.2 ?_; intro v2 w2 hown2 hgrow2 _; have R2 := hide_of (own_next (add := s.data.toList.drop k) HO.out Hx.out.2.2 Hl.out (by rw [← Hee.out]; exact hown2) hgrow2 (Below.refl _ _)); have hz2' := Nat.le_trans Hx.out.2.2 R2.out.2.size; clear hown2 hgrow2)
        | (at_builtin; refine wpList_append_own _ rfl (.tmp 88) (.tmp 89) 22 rfl (w.heap.size + 1) 5 i0 (.int .u8 0) 1 1 Try.underlying22 hi hz0 hz1 hz2 rfl (by decide) v2 _ _ rfl (R2.out.1.alloc _) ⟨w2.heap.size, 0, none⟩ 1 1 (bc [34]) rfl rfl (lit_cell _ _ _ rfl) (bc_one _) (lim1 Hl2.out).1 (lim1 Hl2.out).2 (by simp; omega) ?_; intro v4 w4 hown4 hgrow4 _; have R4 := hide_of (own_next (add := [34]) R2.out.1 hz2' rfl hown4 hgrow4 ((Below.refl _ _).alloc hz2' _)); clear hown4 hgrow4))
      go_ret
      refine ⟨v4, rfl, ?_, ?_⟩
      · rw [← HE.out]; exact R4.out.1
      · have hA : Below w.heap.size w (w.alloc stops) := (Below.refl _ _).alloc (Nat.le_refl _) _
        exact hA.trans ((HB.out.trans (R2.out.2.trans R4.out.2)).mono (Nat.le_succ _))
end Go.Proofs.Qxb6628293a
