import Derived.Test.Qxb6628176aMem
import Derived.Deep.LoopGhost
namespace Go.Proofs.Qxb6628176a
open Go.RowKit Go.Maps
set_option linter.unusedVariables false

theorem owns_pop {w : World} {base g n cap : Nat} {l : List Nat} {q : Nat} (h : w.ownsRow base 3 1 (.slice (some ⟨g, 0, none⟩) (l ++ [q]).length cap) (l ++ [q]).length (iv (l ++ [q]))) :
    w.ownsRow base 3 1 (.slice (some ⟨g, 0, none⟩) l.length cap) l.length (iv l) := by
  refine ⟨by rw [iv_len]; omega, .inr ?_⟩
  rcases h.2 with ⟨h1, _⟩ | ⟨g', cap', cur, h1, h2, h3, h4, h5, h6, h7⟩
  · simp at h1
  · simp only [Value.slice.injEq, Option.some.injEq, Addr.mk.injEq, and_true, true_and] at h1
    obtain ⟨rfl, rfl⟩ := h1
    refine ⟨g, cap, cur, rfl, h2, h3, by simp at h4; omega, h5, h6, ?_⟩
    have e := congrArg (List.take l.length) h7
    rw [List.take_take, iv_append] at e
    simp only [List.length_append, List.length_singleton, Nat.mul_one] at e
    rw [Nat.min_eq_left (by omega)] at e
    rw [Nat.mul_one, e]
    conv => lhs; rw [← iv_len l]
    exact List.take_left

theorem nil_or_snoc (l : List Nat) : l = [] ∨ ∃ m q, l = m ++ [q] := by
  rcases List.eq_nil_or_concat l with h | ⟨m, q, h⟩
  · exact .inl h
  · exact .inr ⟨m, q, by rw [h, List.concat_eq_append]⟩

theorem left_start (n M : Nat) (r : List Nat) (hr : r.length ≤ M) (hn : n ≤ 4096) (hM : M ≤ 1048576) : left M (List.replicate n false) r ≤ 4300000000 := by
  have e : (List.replicate n false).count false = n := by simp
  unfold left
  rw [e]
  have : n * (M + 1) ≤ 4096 * 1048577 := Nat.mul_le_mul hn (by omega)
  omega

theorem left_ge (M : Nat) (seen : List Bool) (st : List Nat) : st.length ≤ left M seen st := by unfold left; omega

set_option maxRecDepth 100000 in
set_option maxHeartbeats 2000000 in
theorem reached_any (n p E g M : Nat) (rows : List (List Nat)) (w : World) (hE : w.cell? ⟨E, 0, none⟩ = some (.slice (some ⟨g, 0, none⟩) n n)) (hR : Grid w g n rows) (hw : Within rows n) (hM : ∀ q, (rowAt rows q).length ≤ M)
    (hn : n ≤ 4096) (hMb : M ≤ 1048576) (hp : p < n) :
    Calls Try.prog 10 #[.int .i64 (n : Int), .int .i64 (p : Int), .func (.func 14) #[] #[.pointer (some ⟨E, 0, none⟩)]] w
      fun e w' => e = .returned (.slice (some ⟨w.heap.size, 0, none⟩) n n) ∧ ∃ seen, w'.ownsRow w.heap.size 4 1 (.slice (some ⟨w.heap.size, 0, none⟩) n n) n (bv seen) ∧ Hid (Marks rows n p seen) ∧ Below w.heap.size w w' := by
  obtain ⟨i0, hi, hz0, hz1, hz2⟩ := info_parts Try.info4
  have hb1 : i0.bytes * n ≤ 281474976710656 := by rw [hz2]; omega
  have hEl : E < w.heap.size := World.block_lt_of_cell? w _ hE
  have HE := hide_of hE
  have HR := hide_of hR
  have HW := hide_of hw
  have HM := hide_of hM
  clear hE hR hw hM
  go_enter Try.func10, Try.ntmps10
  go_wp2_with (at_make; refine wpList_make_full _ rfl _ _ 32 rfl w.heap.size 4 i0 (.bool false) 1 Try.underlying32 hi hz0 hz1 .i64 .i64 _ _ n rfl rfl rfl rfl hb1 (by unfold maxLen; omega) (Nat.le_refl _) ?_; intro w1 hown1 hgrow1)
  have HB1 : Hid (Below w.heap.size w w1) := (Below.refl _ _).grown hgrow1 (Nat.le_refl _) (fun k hk => by cases hk)
  have hs1 : w.heap.size + 1 ≤ w1.heap.size := (hown1.lt w.heap.size rfl).2
  have HO1 : Hid (w1.ownsRow w.heap.size 4 1 (.slice (some ⟨w.heap.size, 0, none⟩) n n) n (bv (List.replicate n false))) := by
    have e : (madeCells (Value.bool false).cells (n * 1)).toList = bv (List.replicate n false) := by
      rw [Nat.mul_one]
      exact (toList_madeCells_one (.bool false) n).trans (by simp [bv])
    rw [← e]; exact hown1
  clear hown1 hgrow1
  refine (step_any p (.slice none 0 0) [] E g n (w.heap.size + 1) rows w1 ((HB1.out.cell (p := ⟨E, 0, none⟩) hEl).trans HE.out) (HR.out.stays HB1.out) hp (by omega) (World.ownsRow_nil _ _ _ _) hs1 (by have := HM.out p; simp; omega)).mono ?_
  rintro e w2 ⟨v2, rfl, ho2, hb2⟩
  have HO2 := hide_of ho2
  have HB2 := hide_of hb2
  clear ho2 hb2
  go_wp2_with fail
  go_loopg [8] (left M (List.replicate n false) (rowAt rows p)) (fun k v wr => ∃ (seen : List Bool) (st : List Nat), wr.ownsRow w.heap.size 4 1 (.slice (some ⟨w.heap.size, 0, none⟩) n n) n (bv seen) ∧ wr.ownsRow (w.heap.size + 1) 3 1 v st.length (iv st) ∧ Hid (Inv rows n p seen st) ∧ Hid (k = left M seen st ∧ k ≤ 4300000000) ∧ Below w.heap.size w wr)
  case atStart => exact ⟨_, _, owns_below HO1.out HB2.out (fun k hk => by cases hk; exact Nat.lt_succ_self _), HO2.out, inv_start _ _ _ HW.out, ⟨rfl, left_start n M _ (HM.out p) hn hMb⟩, HB1.out.trans (HB2.out.mono (Nat.le_succ _))⟩
  case round =>
    obtain ⟨seen, st, hos, hov, HI, HK, hbel⟩ := hrel
    clear HO1 HO2 HB1 HB2 hs1
    have HOS := hide_of hos
    have HOV := hide_of hov
    have HBL := hide_of hbel
    clear hos hbel
    rcases hov.2 with ⟨rfl, h0⟩ | ⟨gs, cap, cur, rfl, h1, h2, h3, h4, h5, h6⟩
    · have hst : st = [] := List.eq_nil_of_length_eq_zero h0
      subst hst
      have HIE := hide_of (inv_end HI.out)
      clear hov h0
      go_wp2
      go_ret
      exact ⟨rfl, seen, HOS.out, HIE, HBL.out⟩
    · clear hov h1 h2 h5 h6
      rcases nil_or_snoc st with rfl | ⟨l, q, rfl⟩
      · have HIE := hide_of (inv_end HI.out)
        go_wp2
        go_ret
        exact ⟨rfl, seen, HOS.out, HIE, HBL.out⟩
      · have hle : (l ++ [q]).length = l.length + 1 := by simp
        have hcq : wr.cell? ⟨gs, l.length, none⟩ = some (.int .i64 (q : Int)) := by
          rw [HOV.out.cellAt l.length (by omega)]
          exact iv_get _ _ _ (by simp)
        have hqn := (HI.out.stk q (by simp)).2
        have hsl := HI.out.len
        have hlb : l.length + 1 ≤ 4300000000 := by
          have := left_ge M seen (l ++ [q])
          have := HK.out
          omega
        have HOP := hide_of (owns_pop (n := n) HOV.out)
        rw [hle] at h3
        rw [hle]
        clear hle
        have hgs : w.heap.size + 1 ≤ gs := (HOV.out.lt gs rfl).1
        cases hsq : seen[q]'(by omega) with
        | true =>
          have hc2 : wr.cell? ⟨w.heap.size, q, none⟩ = some (.bool true) := by
            rw [HOS.out.cellAt q (by omega)]
            exact bv_get _ _ _ (by rw [List.getElem?_eq_getElem (by omega), hsq])
          have HI2 := hide_of (inv_old HI.out (by rw [List.getElem?_eq_getElem (by omega), hsq]))
          have HK2 : Hid (gk = left M seen l + 1 ∧ gk ≤ 4300000000) := ⟨HK.out.1.trans (left_old M seen l q).symm, HK.out.2⟩
          clear hsq hsl
          go_wp2
          go_roundg (left M seen l)
          case measure => have := HK2.out; omega
          case rel => exact ⟨seen, l, HOS.out, HOP.out, HI2, ⟨rfl, by have := HK2.out; omega⟩, HBL.out⟩
        | false =>
          have hc2 : wr.cell? ⟨w.heap.size, q, none⟩ = some (.bool false) := by
            rw [HOS.out.cellAt q (by omega)]
            exact bv_get _ _ _ (by rw [List.getElem?_eq_getElem (by omega), hsq])
          have hf2 := HOS.out.frozenAt q
          have hq2 : seen[q]? = some false := by rw [List.getElem?_eq_getElem (by omega), hsq]
          have HI2 := hide_of (inv_new HW.out HI.out)
          have HK2 : Hid (left M (seen.set q true) (l ++ rowAt rows q) + 1 ≤ gk ∧ gk ≤ 4300000000) := ⟨by rw [HK.out.1]; exact left_new M seen l _ q (HM.out q) hq2, HK.out.2⟩
          have HS2 : Hid ((wr.setCell ⟨w.heap.size, q, none⟩ (.bool true)).ownsRow w.heap.size 4 1 (.slice (some ⟨w.heap.size, 0, none⟩) n n) n (bv (seen.set q true))) := by
            have h := (HOS.out.stored q (.bool true)).1
            rw [bv_set] at h
            exact h
          have HB2 : Hid (Below w.heap.size w (wr.setCell ⟨w.heap.size, q, none⟩ (.bool true))) := HBL.out.setCell (Nat.le_refl _) _
          have HP2 : Hid ((wr.setCell ⟨w.heap.size, q, none⟩ (.bool true)).ownsRow (w.heap.size + 1) 3 1 (.slice (some ⟨gs, 0, none⟩) l.length cap) l.length (iv l)) := ownsRow_setCell_below HOP.out (Nat.lt_succ_self _) _
          have hsz : w.heap.size + 1 ≤ (wr.setCell ⟨w.heap.size, q, none⟩ (.bool true)).heap.size := (HS2.out.lt w.heap.size rfl).2
          have HZ := hide_of hsz
          clear hsq hsl hq2 hsz
          go_wp2_with fail
          refine (step_any q _ l E g n (w.heap.size + 1) rows _ ((HB2.out.cell (p := ⟨E, 0, none⟩) hEl).trans HE.out) (HR.out.stays HB2.out) hqn (by omega) HP2.out HZ.out (by have := HM.out q; omega)).mono ?_
          rintro e w3 ⟨v3, rfl, ho3, hb3⟩
          have HO3 := hide_of ho3
          have HB3 := hide_of hb3
          have HS3 := hide_of (owns_below HS2.out hb3 (fun k hk => by cases hk; exact Nat.lt_succ_self _))
          clear ho3 hb3 hc2 hf2 hcq
          go_wp2
          go_roundg (left M (seen.set q true) (l ++ rowAt rows q))
          case measure => have := HK2.out; omega
          case rel => exact ⟨_, _, HS3.out, HO3.out, HI2, ⟨rfl, by have := HK2.out; omega⟩, HB2.out.trans (HB3.out.mono (Nat.le_succ _))⟩
end Go.Proofs.Qxb6628176a
