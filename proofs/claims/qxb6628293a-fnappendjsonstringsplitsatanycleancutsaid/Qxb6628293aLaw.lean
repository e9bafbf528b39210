import Derived.Test.Qxb6628293aAppend
namespace Go.Proofs.Qxb6628293a
open Go.RowKit

/-- What is owned is read; its length under a name of its own. -/
theorem row_named {w : World} {base : Nat} {v : Value} {l : List UInt8} (h : w.ownsRow base 5 1 v l.length (bc l)) : ∃ ao N cap, v = .slice ao N cap ∧ Hid (Row w ao N cap l) ∧ Hid (N = l.length) := by
  obtain ⟨ao, cap, e, r⟩ := row_of_owns h
  exact ⟨ao, l.length, cap, e, r, rfl⟩

theorem row_as {w : World} {base N : Nat} {v : Value} {l : List UInt8} (h : w.ownsRow base 5 1 v l.length (bc l)) (hN : N = l.length) : ∃ ao cap, v = .slice ao N cap ∧ Row w ao N cap l := by
  subst hN
  exact row_of_owns h

theorem ans_len (l s : List UInt8) : l.length + s.length + 2 ≤ (ans l s).length ∧ (ans l s).length ≤ l.length + 2 + 6 * s.length := by
  have := enc_len s 0
  simp [ans]
  omega

theorem ans_take (l s : List UInt8) : (ans l s).take l.length = l := by simp [ans]

theorem ans_at (l s : List UInt8) : (ans l s)[l.length]? = some 34 := by
  simp [ans]

theorem ans_last (l s : List UInt8) : (ans l s)[(ans l s).length - 1]? = some 34 := by
  have e : ans l s = (l ++ 34 :: encS 0 s) ++ [34] := by simp [ans]
  rw [e]
  have e2 : ((l ++ 34 :: encS 0 s) ++ [34]).length - 1 = (l ++ 34 :: encS 0 s).length := by simp
  rw [e2]
  simp

theorem ans_first (s : List UInt8) : (ans [] s)[0]? = some 34 := by simp [ans]

theorem cell_at {w : World} {b off : Nat} {L : List UInt8} (hc : ∀ j (h : j < L.length), w.cell? ⟨b, off + j, none⟩ = some (.int .u8 (L[j].toNat : Int))) {j : Nat} {x : UInt8} (hx : L[j]? = some x) :
    w.cell? ⟨b, off + j, none⟩ = some (.int .u8 (x.toNat : Int)) := by
  obtain ⟨h, rfl⟩ := List.getElem?_eq_some_iff.1 hx
  exact hc j h

/-- The cells of a part of a row. -/
theorem part_cells {w : World} {b off : Nat} {L : List UInt8} (hc : ∀ j (h : j < L.length), w.cell? ⟨b, off + j, none⟩ = some (.int .u8 (L[j].toNat : Int))) (p q : Nat) :
    ∀ j u, (bc ((L.drop p).take q))[j]? = some u → w.cell? ((⟨b, off + p, none⟩ : Addr).add j) = some u := by
  intro j u hj
  simp only [bc, List.getElem?_map, List.getElem?_take, List.getElem?_drop] at hj
  split at hj
  · rw [Addr.add_lit, Nat.add_assoc]
    cases hx : L[p + j]? with
    | none => rw [hx] at hj; simp at hj
    | some x => rw [hx] at hj; simp at hj; rw [← hj]; exact cell_at hc hx
  · simp at hj

theorem below_tr {A B C : World} (h : Below A.heap.size A B) (k : Below B.heap.size B C) : Below A.heap.size A C := h.trans (k.mono h.size)

theorem left_cells {w5 w7 w8 : World} {b off : Nat} {L : List UInt8} (hc : ∀ j (h : j < L.length), w5.cell? ⟨b, off + j, none⟩ = some (.int .u8 (L[j].toNat : Int))) (hb : b < w5.heap.size)
    (h57 : Below w5.heap.size w5 w7) (h78 : Below w7.heap.size w7 w8) (q : Nat) : ∀ j u, (bc (L.take q))[j]? = some u → w8.cell? ((⟨b, off, none⟩ : Addr).add j) = some u := by
  have h := part_cells (w := w8) (fun j hj => ((below_tr h57 h78).cell (p := ⟨b, off + j, none⟩) hb).trans (hc j hj)) 0 q
  simpa using h

theorem right_cells {w6 w7 w8 w9 : World} {b off : Nat} {L : List UInt8} (hc : ∀ j (h : j < L.length), w6.cell? ⟨b, off + j, none⟩ = some (.int .u8 (L[j].toNat : Int))) (hb : b < w6.heap.size)
    (h67 : Below w6.heap.size w6 w7) (h78 : Below w7.heap.size w7 w8) (h89 : Below w7.heap.size w8 w9) (hb7 : b < w7.heap.size) (q : Nat) : ∀ j u, (bc ((L.drop 1).take q))[j]? = some u → w9.cell? ((⟨b, off + 1, none⟩ : Addr).add j) = some u :=
  part_cells (w := w9) (fun j hj => (h89.cell (p := ⟨b, off + j, none⟩) hb7).trans (((below_tr h67 h78).cell (p := ⟨b, off + j, none⟩) hb).trans (hc j hj))) 1 q

set_option maxRecDepth 100000 in
set_option maxHeartbeats 2000000 in
theorem law_good (a0 : Option Addr) (len0 cap0 : Nat) (l : List UInt8) (a b : ByteArray) (w : World) (hr : Row w a0 len0 cap0 l) (hsum : len0 + a.size + b.size ≤ 1048576) :
    Calls Try.prog 3 #[.slice a0 len0 cap0, .string a, .string b] w fun e w' => e = .returned (.bool true) ∧ Below w.heap.size w w' := by
  obtain ⟨i0, hi, hz0, hz1, hz2⟩ := info_parts Try.info5
  have HR : Hid (Row w a0 len0 cap0 l) := hr
  have HL : Hid (l.length = len0) := hr.len
  have HS : Hid ((a ++ b).size ≤ 2097152 ∧ (a ++ b).data.toList = a.data.toList ++ b.data.toList) := by
    show (a ++ b).size ≤ 2097152 ∧ (a ++ b).data.toList = a.data.toList ++ b.data.toList
    rw [ByteArray.size_append, ByteArray.data_append, Array.toList_append]
    exact ⟨by omega, rfl⟩
  clear hr
  go_enter Try.func3, Try.ntmps3
  go_wp2_with (go_at_call 4; go_in)
  refine (straddles_any a b _ (by omega) (by omega)).mono ?_
  rintro e w' (⟨rfl, rfl⟩ | ⟨rfl, HC, rfl⟩)
  · go_wp2
    go_ret
    exact ⟨rfl, Below.refl _ _⟩
  · go_wp2_with fail
    refine (clone_any a0 len0 cap0 l _ HR.out (by omega)).mono ?_
    rintro e w1 ⟨ao1, rfl, hr1, hb1⟩
    have HR1 := hide_of hr1
    have HB1 := hide_of hb1
    clear hr1 hb1
    go_wp2_with fail
    refine (clone_any ao1 len0 len0 l _ HR1.out (by omega)).mono ?_
    rintro e w2 ⟨ao2, rfl, hr2, hb2⟩
    have HR2 := hide_of hr2
    have HB2 := hide_of hb2
    clear hr2 hb2
    go_wp2_with fail
    refine (clone_any ao1 len0 len0 l _ (HR1.out.below HB2.out) (by omega)).mono ?_
    rintro e w3 ⟨ao3, rfl, hr3, hb3⟩
    have HR3 := hide_of hr3
    have HB3 := hide_of hb3
    clear hr3 hb3
    go_wp2_with fail
    refine (append_any ao2 len0 l (a ++ b) _ (HR2.out.below HB3.out) (by omega) HS.out.1).mono ?_
    rintro e w4 ⟨v4, rfl, ho4, hb4⟩
    obtain ⟨aw, nw, cw, rfl, HRw, HNw⟩ := row_named ho4
    have HB4 := hide_of hb4
    clear ho4 hb4
    go_wp2_with fail
    refine (append_any ao3 len0 l a _ (HR3.out.below HB4.out) (by omega) (by omega)).mono ?_
    rintro e w5 ⟨v5, rfl, ho5, hb5⟩
    obtain ⟨al, nl, cl, rfl, HRl, HNl⟩ := row_named ho5
    have HB5 := hide_of hb5
    clear ho5 hb5
    go_wp2_with fail
    refine (append_any none 0 [] b _ ⟨rfl, Nat.le_refl _, by unfold maxLen; omega, fun _ => rfl, fun h => by omega⟩ (by omega) (by omega)).mono ?_
    rintro e w6 ⟨v6, rfl, ho6, hb6⟩
    obtain ⟨ar, nr, cr, rfl, HRr, HNr⟩ := row_named ho6
    have HB6 := hide_of hb6
    clear ho6 hb6
    have hnl : len0 + a.size + 2 ≤ nl ∧ nl ≤ 10000000 := by
      have h := ans_len l a.data.toList
      have h2 : a.data.toList.length = a.size := by simp
      rw [← HNl.out, HL.out, h2] at h
      omega
    have hnr : b.size + 2 ≤ nr ∧ nr ≤ 10000000 := by
      have h := ans_len [] b.data.toList
      have h2 : b.data.toList.length = b.size := by simp
      rw [← HNr.out, h2] at h
      simp at h
      omega
    obtain ⟨bl, ol, rfl, hbl, hcl⟩ := HRl.out.cells (by omega)
    obtain ⟨br, ofr, rfl, hbr, hcr⟩ := HRr.out.cells (by omega)
    have Hcl := hide_of hcl
    have Hcr := hide_of hcr
    clear hcl hcr
    go_wp2_with fail
    refine (prefix_any (some ⟨bl, ol, none⟩) ao1 nl len0 cl len0 (ans l a.data.toList) l _ (HRl.out.below HB6.out) (HR1.out.below (below_tr HB2.out (below_tr HB3.out (below_tr HB4.out (below_tr HB5.out HB6.out))))) (ans_take _ _) (by omega)).mono ?_
    rintro e w7 ⟨rfl, hb7⟩
    have HB7 := hide_of hb7
    clear hb7
    have B57 := hide_of (below_tr HB6.out HB7.out)
    have c1 : w7.cell? ⟨bl, ol + len0, none⟩ = some (.int .u8 34) := by
      rw [B57.out.cell (p := ⟨bl, ol + len0, none⟩) hbl]
      exact cell_at (j := len0) (x := 34) Hcl.out (by rw [← HL.out]; exact ans_at _ _)
    have c2 : w7.cell? ⟨bl, ol + (nl - 1), none⟩ = some (.int .u8 34) := by
      rw [B57.out.cell (p := ⟨bl, ol + (nl - 1), none⟩) hbl]
      exact cell_at (j := nl - 1) (x := 34) Hcl.out (by rw [HNl.out]; exact ans_last _ _)
    have c3 : w7.cell? ⟨br, ofr, none⟩ = some (.int .u8 34) := by
      rw [HB7.out.cell (p := ⟨br, ofr, none⟩) hbr]
      exact cell_at (j := 0) (x := 34) Hcr.out (ans_first _)
    have c4 : w7.cell? ⟨br, ofr + (nr - 1), none⟩ = some (.int .u8 34) := by
      rw [HB7.out.cell (p := ⟨br, ofr + (nr - 1), none⟩) hbr]
      exact cell_at (j := nr - 1) (x := 34) Hcr.out (by rw [HNr.out]; exact ans_last _ _)
    have hw7 : bl < w7.heap.size ∧ br < w7.heap.size := ⟨Nat.lt_of_lt_of_le hbl B57.out.size, Nat.lt_of_lt_of_le hbr HB7.out.size⟩
    have hcr1 : ¬ cr = 1 := by have := HRr.out.fits; omega
    have hcaps : nl ≤ cl ∧ nr ≤ cr := ⟨HRl.out.fits, HRr.out.fits⟩
    have hbb : i0.bytes * (nl + nr) ≤ 281474976710656 := by rw [hz2]; omega
    have F1 : Hid ((bc ((ans l a.data.toList).take (nl - 1))).length = (nl - 1) * 1 ∧ 0 + (nl - 1) ≤ maxLen ∧ (0 + (nl - 1)) * 1 ≤ 140737488355328) := by
      refine ⟨by rw [bc_len, List.length_take, ← HNl.out]; omega, by unfold maxLen; omega, by omega⟩
    have F2 : Hid ((bc (((ans [] b.data.toList).drop 1).take (nr - 1))).length = (nr - 1) * 1 ∧ ([] ++ (ans l a.data.toList).take (nl - 1)).length + (nr - 1) ≤ maxLen ∧ (([] ++ (ans l a.data.toList).take (nl - 1)).length + (nr - 1)) * 1 ≤ 140737488355328) := by
      refine ⟨by rw [bc_len, List.length_take, List.length_drop, ← HNr.out]; omega, ?_, ?_⟩
      · rw [List.nil_append, List.length_take, ← HNl.out]; unfold maxLen; omega
      · rw [List.nil_append, List.length_take, ← HNl.out]; omega
    go_wp2_with (first
      | (at_make; refine wpList_make_own _ rfl _ _ 22 rfl w7.heap.size 5 i0 (.int .u8 0) 1 Try.underlying22 hi hz0 hz1 .i64 .i64 _ (nl + nr) rfl rfl (by omega) hbb (by unfold maxLen; omega) (Nat.le_refl _) ?_; intro w8 hown8 hgrow8; have HO8 := hide_of hown8; have HB8 : Hid (Below w7.heap.size w7 w8) := (Below.refl _ _).grown hgrow8 (Nat.le_refl _) (fun k hk => by cases hk); clear hown8 hgrow8)
      | (at_builtin; refine wpList_append_own _ rfl (.tmp 118) (.tmp 123) 22 rfl w7.heap.size 5 i0 (.int .u8 0) 1 1 Try.underlying22 hi hz0 hz1 hz2 rfl (by decide) (.slice (some ⟨w7.heap.size, 0, none⟩) 0 (nl + nr)) 0 [] rfl HO8.out ⟨bl, ol, none⟩ (nl - 1) cl (bc ((ans l a.data.toList).take (nl - 1))) rfl F1.out.1 (left_cells Hcl.out hbl B57.out HB8.out _) (bc_one _) F1.out.2.1 F1.out.2.2 HB8.out.size ?_; intro v9 w9 hown9 hgrow9 _; have R9 := hide_of (own_next (out := []) (add := (ans l a.data.toList).take (nl - 1)) HO8.out HB8.out.size (by simp [HNl.out]) hown9 hgrow9 (Below.refl _ _)); clear hown9 hgrow9)
      | (at_builtin; refine wpList_append_own _ rfl (.tmp 125) (.tmp 127) 22 rfl w7.heap.size 5 i0 (.int .u8 0) 1 1 Try.underlying22 hi hz0 hz1 hz2 rfl (by decide) v9 _ _ rfl R9.out.1 ⟨br, ofr + 1, none⟩ (nr - 1) (cr - 1) (bc (((ans [] b.data.toList).drop 1).take (nr - 1))) rfl F2.out.1 (right_cells Hcr.out hbr HB7.out HB8.out (R9.out.2) hw7.2 _) (bc_one _) F2.out.2.1 F2.out.2.2 (Nat.le_trans HB8.out.size R9.out.2.size) ?_; intro v10 w10 hown10 hgrow10 _; have R10 := hide_of (own_next (add := ((ans [] b.data.toList).drop 1).take (nr - 1)) R9.out.1 (Nat.le_trans HB8.out.size R9.out.2.size) (by simp [HNr.out]) hown10 hgrow10 (Below.refl _ _)); clear hown10 hgrow10))
    have hnw : nw ≤ 1000000000 := by
      have h := ans_len l (a ++ b).data.toList
      have h2 : (a ++ b).data.toList.length = (a ++ b).size := by simp
      have h3 := HS.out.1
      rw [← HNw.out, h2, HL.out] at h
      omega
    have eo : [] ++ (ans l a.data.toList).take (nl - 1) ++ ((ans [] b.data.toList).drop 1).take (nr - 1) = ans l (a ++ b).data.toList := by
      rw [HS.out.2, ans_split _ _ _ HC.out, ← HNl.out, List.nil_append, List.take_of_length_le (l := (ans [] b.data.toList).drop 1) (by rw [List.length_drop, ← HNr.out]; omega)]
    obtain ⟨ax, cx, rfl, hrx⟩ := row_as (by rw [← eo]; exact R10.out.1) HNw.out
    have B7x := hide_of (HB8.out.trans (R9.out.2.trans R10.out.2))
    refine (equal_any aw ax nw cw cx (ans l (a ++ b).data.toList) _ (HRw.out.below (below_tr HB5.out (below_tr HB6.out (below_tr HB7.out B7x.out)))) hrx hnw).mono ?_
    rintro e w11 ⟨rfl, hb11⟩
    have HBf := hide_of (below_tr HB1.out (below_tr HB2.out (below_tr HB3.out (below_tr HB4.out (below_tr HB5.out (below_tr HB6.out (below_tr HB7.out (below_tr B7x.out hb11))))))))
    clear hb11 eo c1 c2 c3 c4 hrx
    go_wp2
    go_ret
    exact ⟨rfl, HBf.out⟩
end Go.Proofs.Qxb6628293a
