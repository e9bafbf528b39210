import Derived.Test.Qxb6628176aLawParts
import Derived.BigQuiet
import Derived.Deep.QuietTactic
import Derived.WalkSmall
namespace Go.Proofs.Qxb6628176a
open Go.RowKit Go.Maps
set_option linter.unusedVariables false

set_option maxRecDepth 100000 in
set_option maxHeartbeats 4000000 in
theorem law_any (a0 a1 : Option Addr) (n m c0 c1 : Nat) (ss : List ByteArray) (zz : List (List Int)) (name : ByteArray) (w : World) (hS : SArg w a0 n ss) (hG : GArg w a1 m zz) (hn : n ≤ maxLen) (hm : m ≤ maxLen) (hs : name.size ≤ maxLen)
    (hsl : ∀ j, (sAt ss j).size ≤ maxLen) (hzl : ∀ j, (zAt zz j).length ≤ maxLen) :
    Calls Try.prog 3 #[.slice a0 n c0, .slice a1 m c1, .string name] w fun e w' => e = .returned (.bool true) ∧ Below w.heap.size w w' := by
  have HS := hide_of hS
  have HG := hide_of hG
  have HSL := hide_of hsl
  have HZL := hide_of hzl
  clear hS hG hsl hzl
  have HNM := hide_of hs
  go_enter Try.func3, Try.ntmps3
  go_wp2_with fail
  refine (bytes_any a0 a1 n m c0 c1 ss zz name _ HS.out HG.out hn hm HNM.out HSL.out HZL.out).mono ?_
  unfold maxLen at hn hm hs
  rintro e w' (⟨rfl, HBd, hw⟩ | ⟨rfl, hw⟩)
  case inr =>
    subst hw
    go_wp2
    go_ret
    exact ⟨rfl, Below.refl _ _⟩
  case inl =>
    subst hw
    by_cases hbig : n ≤ 4096 ∧ m ≤ 4096 ∧ name.size + 8 * m ≤ 1048576
    case neg =>
      go_wp2_with fail
      all_goals first
        | (go_ret; exact ⟨rfl, Below.refl _ _⟩)
        | (exfalso; omega)
    case pos =>
      obtain ⟨hn4, hm4, hnm⟩ := hbig
      clear hn hm hs
      obtain ⟨w, hw⟩ : ∃ w, w = w' := ⟨_, rfl⟩
      subst hw
      go_wp2_with fail
      go_loop [7, 8] (fun t i => ∃ z k : Nat, z ≤ 1048576 ∧ k ≤ n ∧ t = .int .i64 z ∧ i = .int .i64 k) (fun _ i => n - (intOf i).toNat)
      case atStart => exact ⟨name.size + 8 * m, 0, by omega, by omega, by go_num, rfl⟩
      case round =>
        obtain ⟨z, k, hz, hk, rfl, rfl⟩ := hrel
        by_cases hlt : k < n
        · obtain ⟨b, off, rfl, hb, hc⟩ := HS.out.cells (by omega)
          have cc := hc k _ (sAt_some (by have := HS.out.len; omega))
          have hbd := HBd.out.1 k hlt
          generalize sAt ss k = s at cc hbd
          clear hc
          go_wp2
          all_goals first
            | (go_ret; exact ⟨rfl, Below.refl _ _⟩)
            | (go_round
               case rel => exact ⟨z + s.size, k + 1, by omega, by omega, by go_num, by go_num⟩
               case measure => simp [intOf]; omega)
        · go_wp2_with fail
          go_loop [7, 9] (fun t i => ∃ z k : Nat, z ≤ 1048576 ∧ k ≤ m ∧ t = .int .i64 z ∧ i = .int .i64 k) (fun _ i => m - (intOf i).toNat)
          case atStart => exact ⟨z, 0, hz, by omega, rfl, rfl⟩
          case round =>
            obtain ⟨z2, k2, hz2, hk2, rfl, rfl⟩ := hrel
            by_cases hlt2 : k2 < m
            · obtain ⟨b, off, rfl, hb, hc⟩ := HG.out.cells (by omega)
              obtain ⟨A, C, cc, _, _⟩ := hc k2 _ (zAt_some (by have := HG.out.len; omega))
              have hbd := HBd.out.2 k2 hlt2
              generalize (zAt zz k2).length = s at cc hbd
              clear hc
              go_wp2
              all_goals first
                | (go_ret; exact ⟨rfl, Below.refl _ _⟩)
                | (go_round
                   case rel => exact ⟨z2 + 8 * s, k2 + 1, by omega, by omega, by go_num, by go_num⟩
                   case measure => simp [intOf]; omega)
            · by_cases hmn : m = n
              case neg =>
                have hne : ((m : Int) != (n : Int)) = true := by rw [bne_iff_ne]; omega
                go_wp2_with fail
                go_ret
                exact ⟨rfl, Below.refl _ _⟩
              case pos =>
                have hmn' : n = m := hmn.symm
                subst hmn'
                have hmm := run_make26 (n : Int)
                go_wp2_with fail
                clear hz hz2 hk hk2 hlt hlt2 hmn
                go_loopw [12] (fun t wr => ∃ (k : Nat) (D : DataW Unit), k ≤ n ∧ t = .int .i64 k ∧ wr.ownsMap Try.prog 9 (plainElem Try.prog 3) w.heap.size k D ∧ Hid (Places D ss k ∧ Dist ss k) ∧ Below w.heap.size w wr) (fun t _ => n - (intOf t).toNat)
                case atStart => exact ⟨0, _, Nat.zero_le _, rfl, World.ownsMap_made _ _ _ _, ⟨places_start ss, fun i j s _ h => absurd h (Nat.not_lt_zero j)⟩, (Below.refl _ _).alloc (Nat.le_refl _) _⟩
                case round =>
                  obtain ⟨k3, D, hk3, rfl, hmap, HPl, hbel⟩ := hrel
                  clear hmm
                  have HMp := hide_of hmap
                  have HBm := hide_of hbel
                  clear hmap hbel
                  by_cases hlt3 : k3 < n
                  · obtain ⟨b, off, rfl, hb, hc⟩ := HS.out.cells (by omega)
                    have hks := sAt_some (ss := ss) (j := k3) (by have := HS.out.len; omega)
                    have cc : wr.cell? ⟨b, off + k3, none⟩ = some (.string (sAt ss k3)) := (HBm.out.cell (p := ⟨b, off + k3, none⟩) hb).trans (hc k3 _ hks)
                    have HK := hide_of (WideMaps.keyOf_string_mk (P := Try.prog) (k := 9) Try.underlying9 (HSL.out k3))
                    have hkm : k3 < maxLen := by unfold maxLen; omega
                    have Hks := hide_of hks
                    clear hc hks
                    cases hdup : Maps.has D (.string (sAt ss k3).data.toList) with
                    | true =>
                      go_wp2_with (at_lookup; refine wpList_lookup_own_ok_int _ rfl _ _ 26 rfl 9 3 .i64 law9 Try.underlying26 Try.underlying3 (zero3 _) w.heap.size k3 D rfl HMp.out _ _ rfl HK.out ?_; intro c hat hwc; rw [hdup]; clear hat hwc)
                      go_ret
                      exact ⟨rfl, HBm.out⟩
                    | false =>
                      have hds := dist_step HPl.out.1 HPl.out.2 Hks.out hdup
                      have HP2 := hide_of (places_step HPl.out.1 Hks.out hds.1)
                      have HD2 := hide_of hds.2
                      clear hds
                      go_wp2_with (first
                        | (at_lookup; refine wpList_lookup_own_ok_int _ rfl _ _ 26 rfl 9 3 .i64 law9 Try.underlying26 Try.underlying3 (zero3 _) w.heap.size k3 D rfl HMp.out _ _ rfl HK.out ?_; intro c hat hwc; rw [hdup]; clear hat hwc)
                        | (at_mapUpdate; refine wpList_mapUpdate_own _ rfl _ _ _ 26 rfl 9 3 law9 Try.underlying26 _ w.heap.size k3 D rfl HMp.out hkm _ _ _ rfl rfl HK.out _ [] (plainElem_int Try.underlying3 (WalkArith.wf_i64 (by omega))) ?_; intro w4 hown4 hgrow4; have HO4 := hide_of hown4; have HB4 : Hid (Below w.heap.size w w4) := HBm.out.grown hgrow4 HBm.out.size (fun j hj => by cases hj; exact Nat.le_refl _); clear hown4 hgrow4))
                      go_roundw
                      case rel => exact ⟨k3 + 1, _, by omega, by go_num, HO4.out, ⟨HP2.out, HD2.out⟩, HB4.out⟩
                      case measure => simp [intOf]; omega
                  · have hkn : n = k3 := by omega
                    subst hkn
                    obtain ⟨wp, hwp⟩ : ∃ wp, wp = wr := ⟨_, rfl⟩
                    subst hwp
                    go_wp2_with fail
                    clear hk3 hlt3
                    go_loop [15] (fun t => ∃ q : Nat, q ≤ n ∧ t = .int .i64 q ∧ Hid (∀ j, j < q → RowOk n j (zAt zz j))) (fun t => n - (intOf t).toNat)
                    case atStart => exact ⟨0, Nat.zero_le _, rfl, fun j h => absurd h (Nat.not_lt_zero j)⟩
                    case round =>
                      obtain ⟨q, hq, rfl, HRo⟩ := hrel
                      by_cases hlq : q < n
                      · obtain ⟨b, off, rfl, hb, hc⟩ := HG.out.cells (by omega)
                        obtain ⟨A, C, cc0, _, hia⟩ := hc q _ (zAt_some (by have := HG.out.len; omega))
                        have cc : wp.cell? ⟨b, off + q, none⟩ = some (.slice A (zAt zz q).length C) := (HBm.out.cell (p := ⟨b, off + q, none⟩) hb).trans cc0
                        have HIa := hide_of hia
                        have hbd := HBd.out.2 q hlq
                        have HRn : Hid (RowOk n q (zAt zz q) → ∀ j, j < q + 1 → RowOk n j (zAt zz j)) := fun h j hj => by
                          by_cases e : j = q
                          · subst e; exact h
                          · exact HRo.out j (by omega)
                        clear hc hia cc0
                        generalize zAt zz q = zs at cc HIa hbd HRn
                        go_wp2_with fail
                        go_loop [16] (fun t => ∃ k : Nat, k ≤ zs.length ∧ t = .int .i64 k ∧ Hid (∀ (i : Nat) (z : Int), i < k → zs[i]? = some z → (q : Int) < z ∧ z < (n : Int))) (fun t => zs.length - (intOf t).toNat)
                        case atStart => exact ⟨0, Nat.zero_le _, rfl, fun i z h => absurd h (Nat.not_lt_zero i)⟩
                        case round =>
                          obtain ⟨k5, hk5, rfl, HIn⟩ := hrel
                          by_cases hl5 : k5 < zs.length
                          · obtain ⟨b', off', e0, hb', hc'⟩ := HIa.out.cells (by omega)
                            cases e0
                            obtain ⟨z, hz⟩ : ∃ z, zs[k5]? = some z := ⟨zs[k5], List.getElem?_eq_getElem hl5⟩
                            have c3 : wp.cell? ⟨b', off' + k5, none⟩ = some (.int .i64 z) := (HBm.out.cell (p := ⟨b', off' + k5, none⟩) hb').trans (hc' k5 z hz)
                            have Hz := hide_of hz
                            clear hz hc'
                            by_cases hz1 : (q : Int) < z
                            · by_cases hz2 : z < (n : Int)
                              · go_wp2
                                go_round
                                case rel => exact ⟨k5 + 1, by omega, by go_num, fun i y hi hy => by
                                  by_cases e : i = k5
                                  · subst e
                                    rw [Hz.out] at hy
                                    cases hy
                                    exact ⟨hz1, hz2⟩
                                  · exact HIn.out i y (by omega) hy⟩
                                case measure => simp [intOf]; omega
                              · go_wp2
                                go_ret
                                exact ⟨rfl, HBm.out⟩
                            · go_wp2
                              go_ret
                              exact ⟨rfl, HBm.out⟩
                          · have HR2 := hide_of (HRn.out fun i z hz => HIn.out i z (by have := (List.getElem?_eq_some_iff.1 hz).1; omega) hz)
                            go_wp2
                            go_round
                            case rel => exact ⟨q + 1, by omega, by go_num, HR2⟩
                            case measure => simp [intOf]; omega
                      · have hqn : n = q := by omega
                        subst hqn
                        obtain ⟨rows, hrows⟩ : ∃ rows, rows = toRows zz := ⟨_, rfl⟩
                        have HRw := hide_of hrows
                        have HWi : Hid (Within rows n) := by rw [hrows]; exact within_of HG.out.len HRo.out
                        have HNa : Hid (NArg wp a1 n rows) := by rw [hrows]; exact (narg_of HG.out HRo.out).stays HBm.out
                        have HMr : Hid (∀ q, (rowAt rows q).length ≤ 1048576) := fun q => by
                          rw [hrows, rowAt_len]
                          by_cases hq : q < n
                          · exact HBd.out.2 q hq
                          · have e : zAt zz q = [] := by
                              unfold zAt
                              rw [List.getD, List.getElem?_eq_none (by rw [HG.out.len]; omega)]
                              rfl
                            rw [e]; exact Nat.zero_le _
                        clear hrows
                        go_wp2_with fail
                        clear hlq hq
                        refine (build_any a0 a1 n c0 c1 ss rows wp (HS.out.stays HBm.out) HNa.out hn4 HPl.out.2 HWi.out HMr.out HSL.out).mono ?_
                        rintro e wb ⟨L, gN, gS, bm, D2, rfl, HLt, HP2, hbb⟩
                        have HBb := hide_of hbb
                        clear hbb
                        have HMb := hide_of (map_stays HMp.out HBb.out)
                        have HK := hide_of (WideMaps.keyOf_string_mk (P := Try.prog) (k := 9) Try.underlying9 HNM.out)
                        cases hdec : Maps.has D (.string name.data.toList) with
                        | false =>
                          have hdec2 : Maps.has D2 (.string name.data.toList) = false := by
                            cases h2 : Maps.has D2 (.string name.data.toList) with
                            | false => rfl
                            | true =>
                              rw [(places_iff HPl.out.1 name).2 ((places_iff HP2.out name).1 h2)] at hdec
                              cases hdec
                          have HD2 := hide_of hdec2
                          clear hdec2
                          go_wp2_with (at_lookup; refine wpList_lookup_own_ok_int _ rfl _ _ 26 rfl 9 3 .i64 law9 Try.underlying26 Try.underlying3 (zero3 _) w.heap.size n D rfl HMb.out _ _ rfl HK.out ?_; intro c hat hwc; rw [hdec]; clear hat hwc)
                          refine (below_no L gN gS bm n ss rows D2 name _ HLt.out HNM.out HD2.out).mono ?_
                          rintro e wn ⟨rfl, rfl⟩
                          have q22 : ∀ (w : World) (a : Option Addr) (n c n' c' : Nat), (binOp .eql 22 (.slice a n c) (.slice none n' c')).run Try.prog w = .ok (.bool a.isNone) w := fun w a n c n' c' => Lib.run_eql_slice_nil w _ _ a n c n' c' Try.underlying22
                          go_wp2
                          go_ret
                          exact ⟨rfl, below_tr HBm.out HBb.out⟩
                        | true =>
                          obtain ⟨p, hp, hpn⟩ := (places_iff HPl.out.1 name).1 hdec
                          have hat0 := (HPl.out.1.hit p name hp hpn).2
                          have HH2 := hide_of (HP2.out.hit p name hp hpn)
                          have HA0 := hide_of hat0
                          clear hat0 hpn
                          go_wp2_with (at_lookup; refine wpList_lookup_own_ok_int _ rfl _ _ 26 rfl 9 3 .i64 law9 Try.underlying26 Try.underlying3 (zero3 _) w.heap.size n D rfl HMb.out _ _ rfl HK.out ?_; intro c hat hwc; rw [hdec]; have hcp : c = (p : Int) := (by have h := hat.symm.trans HA0.out; simpa using h); subst hcp; clear hat hwc)
                          refine (below_yes L gN gS bm n p 1048576 ss rows D2 name _ HLt.out HNM.out HH2.out.1 HH2.out.2 HWi.out HMr.out hn4 (Nat.le_refl _) hp).mono ?_
                          rintro e wx ⟨got, seen, rfl, hog, HMk, hbx⟩
                          obtain ⟨Ag, Cg, rfl⟩ := owns_form hog
                          obtain ⟨gl, hgl⟩ : ∃ gl, gl = (pick ss seen n).length := ⟨_, rfl⟩
                          rw [← hgl] at hog ⊢
                          have HOg := hide_of hog
                          have HBx := hide_of (below_tr HBb.out hbx)
                          have HLx := hide_of (HLt.out.stays hbx)
                          have Hgl := hide_of hgl
                          have hgn : gl ≤ 4096 := by rw [hgl]; exact Nat.le_trans (pick_le ss seen n) hn4
                          clear hog hbx hgl
                          obtain ⟨i4, hi4, hz40, hz41, hz42⟩ := info_parts Try.info4
                          have hb4 : i4.bytes * n ≤ 281474976710656 := by rw [hz42]; omega
                          go_wp2_with (at_make; refine wpList_make_full _ rfl _ _ 32 rfl wx.heap.size 4 i4 (.bool false) 1 Try.underlying32 hi4 hz40 hz41 .i64 .i64 _ _ n rfl rfl rfl rfl hb4 (by unfold maxLen; omega) (Nat.le_refl _) ?_; intro w8 hown8 hgrow8)
                          have HO8 : Hid (w8.ownsRow wx.heap.size 4 1 (.slice (some ⟨wx.heap.size, 0, none⟩) n n) n (bv (List.replicate n false))) := by
                            have e : (madeCells (Value.bool false).cells (n * 1)).toList = bv (List.replicate n false) := by
                              rw [Nat.mul_one]
                              exact (toList_madeCells_one (.bool false) n).trans (by simp [bv])
                            show w8.ownsRow _ _ _ _ _ _
                            rw [← e]; exact hown8
                          have HB8 : Hid (Below wx.heap.size wx w8) := (Below.refl _ _).grown hgrow8 (Nat.le_refl _) (fun k hk => by cases hk)
                          clear hown8 hgrow8
                          have HWx := hide_of (below_tr HBm.out HBx.out)
                          have HMx := hide_of (map_stays HMp.out HBx.out)
                          obtain ⟨b, off, e1, hb, hc⟩ := HG.out.cells (by omega)
                          subst e1
                          obtain ⟨A, C, cc0, _, hia⟩ := hc p _ (zAt_some (by have := HG.out.len; omega))
                          have HIa := hide_of hia
                          have Hcc := hide_of ((HWx.out.cell (p := ⟨b, off + p, none⟩) hb).trans cc0)
                          have hbd := HBd.out.2 p hp
                          have hbx : b < wx.heap.size := Nat.lt_of_lt_of_le hb HWx.out.size
                          have Hrl : Hid ((rowAt rows p).length = (zAt zz p).length) := by
                            show (rowAt rows p).length = _
                            rw [HRw.out, rowAt_len]
                          clear hc hia cc0
                          go_loopw [23] (fun t wr => ∃ (k : Nat) (mark : List Bool), k ≤ (zAt zz p).length ∧ t = .int .i64 k ∧ wr.ownsRow wx.heap.size 4 1 (.slice (some ⟨wx.heap.size, 0, none⟩) n n) n (bv mark) ∧ Hid (MarkTo rows n p k mark) ∧ Below wx.heap.size wx wr) (fun t _ => (zAt zz p).length - (intOf t).toNat)
                          case atStart => exact ⟨0, _, Nat.zero_le _, rfl, HO8.out, markTo_start _ _ _, HB8.out⟩
                          case round =>
                            obtain ⟨k6, mark, hk6, rfl, hom, HMt, hbel⟩ := hrel
                            clear HO8 HB8
                            have HOm := hide_of hom
                            have HB6 := hide_of hbel
                            clear hom hbel
                            have cc : wr.cell? ⟨b, off + p, none⟩ = some (.slice A (zAt zz p).length C) := (HB6.out.cell (p := ⟨b, off + p, none⟩) hbx).trans Hcc.out
                            by_cases hl6 : k6 < (zAt zz p).length
                            · obtain ⟨s, hs6⟩ : ∃ s, (rowAt rows p)[k6]? = some s := ⟨(rowAt rows p)[k6]'(by have := Hrl.out; omega), List.getElem?_eq_getElem _⟩
                              have hrs := rowAt_some (HRo.out p hp) (by rw [← HRw.out]; exact hs6)
                              have hsn : s < n := hrs.2.2
                              obtain ⟨b', off', e0, hb', hc'⟩ := HIa.out.cells (by omega)
                              cases e0
                              have c3 : wr.cell? ⟨b', off' + k6, none⟩ = some (.int .i64 (s : Int)) := by
                                rw [HB6.out.cell (p := ⟨b', off' + k6, none⟩) (Nat.lt_of_lt_of_le hb' HWx.out.size), HWx.out.cell (p := ⟨b', off' + k6, none⟩) hb']
                                exact hc' k6 _ hrs.1
                              have Hs6 := hide_of hs6
                              clear hc' hrs hs6
                              have hml : mark.length = n := HMt.out.1
                              obtain ⟨x4, c4⟩ : ∃ x4, wr.cell? ⟨wx.heap.size, s, none⟩ = some x4 := ⟨.bool (mark.getD s false), by rw [HOm.out.cellAt s (by omega)]; exact bv_get _ _ _ (getD_bool (by omega))⟩
                              have f4 := HOm.out.frozenAt s
                              obtain ⟨b0, off0, e2, hb0, hc0⟩ := HS.out.cells (by omega)
                              subst e2
                              have hss := sAt_some (ss := ss) (j := s) (by have := HS.out.len; omega)
                              have HB7 : Hid (Below wx.heap.size wx (wr.setCell ⟨wx.heap.size, s, none⟩ (.bool true))) := HB6.out.setCell (Nat.le_refl _) _
                              have hb0x : b0 < wx.heap.size := Nat.lt_of_lt_of_le hb0 HWx.out.size
                              have c5 : (wr.setCell ⟨wx.heap.size, s, none⟩ (.bool true)).cell? ⟨b0, off0 + s, none⟩ = some (.string (sAt ss s)) := by
                                rw [HB7.out.cell (p := ⟨b0, off0 + s, none⟩) hb0x, HWx.out.cell (p := ⟨b0, off0 + s, none⟩) hb0]
                                exact hc0 s _ hss
                              have c6 : wr.cell? ⟨b0, off0 + s, none⟩ = some (.string (sAt ss s)) := by
                                rw [HB6.out.cell (p := ⟨b0, off0 + s, none⟩) hb0x, HWx.out.cell (p := ⟨b0, off0 + s, none⟩) hb0]
                                exact hc0 s _ hss
                              have HM7 : Hid ((wr.setCell ⟨wx.heap.size, s, none⟩ (.bool true)).ownsRow wx.heap.size 4 1 (.slice (some ⟨wx.heap.size, 0, none⟩) n n) n (bv (mark.set s true))) := by
                                have h := (HOm.out.stored s (.bool true)).1
                                rw [bv_set] at h
                                exact h
                              have HHs := hide_of (HP2.out.hit s (sAt ss s) hsn hss)
                              have HL7 := hide_of (HLx.out.stays HB7.out)
                              have hne0 : ¬ wx.heap.size = b0 := by omega
                              clear hc0 hss
                              go_wp2_with fail
                              refine (below_yes L gN gS bm n s 1048576 ss rows D2 (sAt ss s) _ HL7.out (HSL.out s) HHs.out.1 HHs.out.2 HWi.out HMr.out hn4 (Nat.le_refl _) hsn).mono ?_
                              rintro e wy ⟨sb, seen2, rfl, hos, HMk2, hby⟩
                              obtain ⟨A2, C2, rfl⟩ := owns_form hos
                              obtain ⟨l2, hl2⟩ : ∃ l2, l2 = (pick ss seen2 n).length := ⟨_, rfl⟩
                              rw [← hl2] at hos ⊢
                              have HOs := hide_of hos
                              have HMy := hide_of (owns_stays HM7.out hby)
                              have HBy := hide_of (below_tr HB7.out hby)
                              have Hl2 := hide_of (hl2.trans (pick_len ss seen2 n))
                              have hl24 : l2 ≤ 4096 := by rw [hl2]; exact Nat.le_trans (pick_le ss seen2 n) hn4
                              have hbz : wx.heap.size + 1 ≤ (wr.setCell ⟨wx.heap.size, s, none⟩ (.bool true)).heap.size := (HM7.out.lt wx.heap.size rfl).2
                              have HOs2 := hide_of (owns_base HOs.out hbz)
                              clear hos hby hl2 c3 c4 f4 c5 c6 cc hbz
                              go_wp2_with fail
                              go_loopw [27] (fun t wi => ∃ (j : Nat) (mk : List Bool), j ≤ l2 ∧ t = .int .i64 j ∧ wi.ownsRow wx.heap.size 4 1 (.slice (some ⟨wx.heap.size, 0, none⟩) n n) n (bv mk) ∧ Hid (MarkIn (mark.set s true) seen2 n j mk) ∧ wi.ownsRow (wx.heap.size + 1) 9 1 (.slice A2 l2 C2) l2 (sv (pick ss seen2 n)) ∧ Below wx.heap.size wx wi) (fun t _ => l2 - (intOf t).toNat)
                              case atStart => exact ⟨0, _, Nat.zero_le _, rfl, HMy.out, markIn_start _ _ _ (by rw [List.length_set]; exact hml), HOs2.out, HBy.out⟩
                              case round =>
                                obtain ⟨j, mk, hj, rfl, hoj, HMi, hosj, hbel⟩ := hrel
                                have HOj := hide_of hoj
                                have HSj := hide_of hosj
                                have HBj := hide_of hbel
                                clear hoj hosj hbel
                                by_cases hlj : j < l2
                                · obtain ⟨tt, htt⟩ : ∃ tt, (pos seen2 n)[j]? = some tt := ⟨(pos seen2 n)[j]'(by have := Hl2.out; omega), List.getElem?_eq_getElem _⟩
                                  have htn : tt < n := pos_lt htt
                                  obtain ⟨g2, e3, hg2, hcs⟩ := srow_cell HSj.out (by omega)
                                  subst e3
                                  have d1 : wr.cell? ⟨g2, j, none⟩ = some (.string (sAt ss tt)) := hcs j _ (pick_at htt)
                                  have hmk : mk.length = n := HMi.out.1
                                  obtain ⟨x5, d2⟩ : ∃ x5, wr.cell? ⟨wx.heap.size, tt, none⟩ = some x5 := ⟨.bool (mk.getD tt false), by rw [HOj.out.cellAt tt (by omega)]; exact bv_get _ _ _ (getD_bool (by omega))⟩
                                  have f5 := HOj.out.frozenAt tt
                                  have HH5 := hide_of (HPl.out.1.hit tt (sAt ss tt) htn (sAt_some (by have := HS.out.len; omega)))
                                  have HK5 := hide_of (WideMaps.keyOf_string_mk (P := Try.prog) (k := 9) Try.underlying9 (HSL.out tt))
                                  have HM5 := hide_of (map_stays HMx.out HBj.out)
                                  have HO5 : Hid ((wr.setCell ⟨wx.heap.size, tt, none⟩ (.bool true)).ownsRow wx.heap.size 4 1 (.slice (some ⟨wx.heap.size, 0, none⟩) n n) n (bv (mk.set tt true))) := by
                                    have h := (HOj.out.stored tt (.bool true)).1
                                    rw [bv_set] at h
                                    exact h
                                  have HI5 := hide_of (markIn_step HMi.out htt htn)
                                  have HS5 := hide_of (ownsRow_setCell_below HSj.out (a := ⟨wx.heap.size, tt, none⟩) (Nat.lt_succ_self _) (.bool true))
                                  have HB5 : Hid (Below wx.heap.size wx (wr.setCell ⟨wx.heap.size, tt, none⟩ (.bool true))) := HBj.out.setCell (Nat.le_refl _) _
                                  clear hcs htt
                                  go_wp2_with (at_lookup; refine wpList_lookup_own_ok_int _ rfl _ _ 26 rfl 9 3 .i64 law9 Try.underlying26 Try.underlying3 (zero3 _) w.heap.size n D rfl HM5.out _ _ rfl HK5.out ?_; intro c hat hwc; rw [HH5.out.1]; have hcp : c = (tt : Int) := (by have h := hat.symm.trans HH5.out.2; simpa using h); subst hcp; clear hat hwc)
                                  go_roundw
                                  case rel => exact ⟨j + 1, _, by omega, by go_num, HO5.out, HI5, HS5.out, HB5.out⟩
                                  case measure => simp [intOf]; omega
                                · have HT6 := hide_of (markTo_step HMt.out Hs6.out hsn HMk2.out (by have e : j = (pos seen2 n).length := (by have := Hl2.out; omega); rw [← e]; exact HMi.out))
                                  go_wp2
                                  go_roundw
                                  case rel => exact ⟨k6 + 1, _, by omega, by go_num, HOj.out, HT6, HBj.out⟩
                                  case measure => simp [intOf]; omega
                            · have hpe := markTo_end HMt.out (by have := Hrl.out; omega) HMk.out
                              have HPe := hide_of hpe
                              have HGl : Hid ((pos mark n).length = gl) := by
                                show (pos mark n).length = gl
                                rw [hpe, Hgl.out, pick_len]
                              clear hpe
                              obtain ⟨wz, hwz⟩ : ∃ wz, wz = wr := ⟨_, rfl⟩
                              subst hwz
                              have hml : mark.length = n := HMt.out.1
                              have Hml := hide_of hml
                              clear hml
                              go_wp2_with fail
                              go_loopw [30, 31] (fun t u wr => ∃ q i : Nat, q ≤ n ∧ u = .int .i64 q ∧ t = .int .i64 i ∧ i ≤ n ∧ Hid (i = (pos mark q).length) ∧ Below wz.heap.size wz wr) (fun _ u _ => n - (intOf u).toNat)
                              case atStart => exact ⟨0, 0, Nat.zero_le _, rfl, rfl, Nat.zero_le _, rfl, Below.refl _ _⟩
                              case round =>
                                obtain ⟨q, i, hq8, rfl, rfl, hin, Hi, hbel⟩ := hrel
                                clear cc
                                have HB8 := hide_of hbel
                                clear hbel
                                by_cases hl8 : q < n
                                · have d1 : wr.cell? ⟨wx.heap.size, q, none⟩ = some (.bool (mark.getD q false)) := by
                                    rw [(owns_stays HOm.out HB8.out).cellAt q (by omega)]
                                    exact bv_get _ _ _ (getD_bool (by rw [Hml.out]; exact hl8))
                                  cases hmq : mark.getD q false with
                                  | false =>
                                    rw [hmq] at d1
                                    have Hi2 : Hid (i = (pos mark (q + 1)).length) := by
                                      show i = (pos mark (q + 1)).length
                                      rw [pos, if_neg (by rw [hmq]; decide)]; exact Hi.out
                                    clear hmq
                                    go_wp2
                                    go_roundw
                                    case rel => exact ⟨q + 1, i, by omega, by go_num, rfl, hin, Hi2, HB8.out⟩
                                    case measure => simp [intOf]; omega
                                  | true =>
                                    rw [hmq] at d1
                                    have hpa := pos_at mark q n hl8 hmq
                                    rw [← Hi.out] at hpa
                                    have hil : i < gl := by rw [← HGl.out]; exact (List.getElem?_eq_some_iff.1 hpa).1
                                    have Hi2 : Hid (i + 1 = (pos mark (q + 1)).length) := by
                                      show i + 1 = (pos mark (q + 1)).length
                                      rw [pos, if_pos hmq, List.length_append, ← Hi.out]; rfl
                                    rw [HPe.out] at hpa
                                    obtain ⟨g, e5, hg, hcg⟩ := srow_cell (owns_stays HOg.out (below_tr HB6.out HB8.out)) (by omega)
                                    subst e5
                                    have d2 : wr.cell? ⟨g, i, none⟩ = some (.string (sAt ss q)) := hcg i _ (pick_at hpa)
                                    obtain ⟨b0, off0, e2, hb0, hc0⟩ := HS.out.cells (by omega)
                                    subst e2
                                    have d3 : wr.cell? ⟨b0, off0 + q, none⟩ = some (.string (sAt ss q)) := by
                                      rw [(below_tr HWx.out (below_tr HB6.out HB8.out)).cell (p := ⟨b0, off0 + q, none⟩) hb0]
                                      exact hc0 q _ (sAt_some (by have := HS.out.len; omega))
                                    have i1 : (i : Int) < (gl : Int) := by omega
                                    have i2 : (q : Int) < (n : Int) := by omega
                                    have i3 : decide ((gl : Int) ≤ (i : Int)) = false := by simp; omega
                                    clear hpa hcg hc0 hmq
                                    generalize sAt ss q = nm at d2 d3
                                    go_wp2
                                    go_quiet (fail)
                                    go_wp2
                                    go_roundw
                                    case rel => exact ⟨q + 1, i + 1, by omega, by go_num, by go_num, by rw [Hi2.out]; exact Nat.le_trans (pos_le mark _) hl8, Hi2, below_drewN HB8.out _⟩
                                    case measure => simp [intOf]; omega
                                · have hqn : n = q := by omega
                                  subst hqn
                                  have hig : i = gl := Hi.out.trans HGl.out
                                  subst hig
                                  go_wp2
                                  go_ret
                                  exact ⟨rfl, below_tr HWx.out (below_tr HB6.out HB8.out)⟩
end Go.Proofs.Qxb6628176a
