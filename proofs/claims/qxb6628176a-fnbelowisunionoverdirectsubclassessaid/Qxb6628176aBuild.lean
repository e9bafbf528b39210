import Derived.Test.Qxb6628176aParts
import Derived.Lib.SliceRun
namespace Go.Proofs.Qxb6628176a
open Go.RowKit Go.Maps
set_option linter.unusedVariables false

/-- A []int that holds places. -/
def NRow (w : World) (A : Option Addr) (r : List Nat) : Prop := 0 < r.length → ∃ b off, A = some ⟨b, off, none⟩ ∧ b < w.heap.size ∧ ∀ (k x : Nat), r[k]? = some x → w.cell? ⟨b, off + k, none⟩ = some (.int .i64 (x : Int))

theorem NRow.stays {w w' : World} {A : Option Addr} {r : List Nat} (h : NRow w A r) (hb : Below w.heap.size w w') : NRow w' A r := fun hr => by
  obtain ⟨b, off, e, hl, hc⟩ := h hr
  exact ⟨b, off, e, Nat.lt_of_lt_of_le hl hb.size, fun k x hk => (hb.cell (p := ⟨b, off + k, none⟩) hl).trans (hc k x hk)⟩

/-- A [][]int that holds places. -/
def NArg (w : World) (ao : Option Addr) (n : Nat) (rows : List (List Nat)) : Prop :=
  0 < n → ∃ b off, ao = some ⟨b, off, none⟩ ∧ b < w.heap.size ∧ ∀ j, j < n → ∃ A C, w.cell? ⟨b, off + j, none⟩ = some (.slice A (rowAt rows j).length C) ∧ NRow w A (rowAt rows j)

theorem NArg.stays {w w' : World} {ao : Option Addr} {n : Nat} {rows : List (List Nat)} (h : NArg w ao n rows) (hb : Below w.heap.size w w') : NArg w' ao n rows := fun hn => by
  obtain ⟨b, off, e, hl, hc⟩ := h hn
  refine ⟨b, off, e, Nat.lt_of_lt_of_le hl hb.size, fun j hj => ?_⟩
  obtain ⟨A, C, h1, h2⟩ := hc j hj
  exact ⟨A, C, (hb.cell (p := ⟨b, off + j, none⟩) hl).trans h1, h2.stays hb⟩

theorem Grid.lt {w : World} {g n : Nat} {rows : List (List Nat)} (h : Grid w g n rows) : g < w.heap.size := by
  obtain ⟨V, h1, _⟩ := h
  exact (h1.lt g rfl).2

/-- How many superclasses one class may have so far. -/
def supB (q k : Nat) : Nat := q * 1048576 + k
theorem supB_succ (q k : Nat) : supB q (k + 1) = supB q k + 1 := by unfold supB; omega
theorem supB_next {q k : Nat} (h : k ≤ 1048576) : supB q k ≤ supB (q + 1) 0 := by unfold supB; omega
theorem supB_le {q k n : Nat} (hq : q ≤ n) (hn : n ≤ 4096) (hk : k ≤ 1048576) : supB q k ≤ 5000000000 := by unfold supB; omega

theorem owns_shape {w : World} {base : Nat} {v : Value} {r : List Nat} (h : w.ownsRow base 3 1 v r.length (iv r)) : ∃ A C, v = .slice A r.length C ∧ NRow w A r := by
  rcases h.2 with ⟨rfl, h0⟩ | ⟨g, cap, cur, rfl, hb, hg, hrest⟩
  · exact ⟨_, _, by rw [h0], fun hp => by omega⟩
  · refine ⟨_, _, rfl, fun _ => ⟨g, 0, rfl, (Array.getElem?_eq_some_iff.1 hg).1, fun k x hk => ?_⟩⟩
    have hkl := (List.getElem?_eq_some_iff.1 hk).1
    rw [Nat.zero_add, h.cellAt k (by omega)]
    exact iv_get _ _ _ hk

theorem newLat_any (a0 a2 a3 a4 : Option Addr) (n0 n2 n3 n4 k0 k2 k3 k4 : Nat) (b : Option Nat) (w : World) :
    Calls Try.prog 9 #[.slice a0 n0 k0, .map b, .slice a2 n2 k2, .slice a3 n3 k3, .slice a4 n4 k4] w
      fun e w' => e = .returned (.pointer (some ⟨w.heap.size, 0, none⟩)) ∧ w' = w.alloc (.cells #[.slice a0 n0 k0, .map b, .slice a2 n2 k2, .slice a3 n3 k3, .slice a4 n4 k4] 36) := by
  go_enter Try.func9, Try.ntmps9
  go_wp2
  go_ret
  exact ⟨rfl, rfl⟩

theorem lat_made {w : World} {gN gS bm n : Nat} {ss : List ByteArray} {rows : List (List Nat)} {D : DataW Unit} {v2 v4 : Value} {base : Nat} (hN : w.ownsRow base 9 1 (.slice (some ⟨gN, 0, none⟩) n n) n (sv ss)) (hG : Grid w gS n rows)
    (hM : w.ownsMap Try.prog 9 (plainElem Try.prog 3) bm n D) :
    Lat (w.alloc (.cells #[.slice (some ⟨gN, 0, none⟩) n n, .map (some bm), v2, .slice (some ⟨gS, 0, none⟩) n n, v4] 36)) w.heap.size gN gS bm n ss rows D :=
  ⟨World.cell?_alloc_mark w _ 36 (0, 0) 0, World.cell?_alloc_mark w _ 36 (0, 0) 1, World.cell?_alloc_mark w _ 36 (0, 0) 3, (owns_base hN (Nat.zero_le _)).alloc _, hG.stays ((Below.refl _ _).alloc (Nat.le_refl _) _), hM.alloc _⟩

set_option maxRecDepth 100000 in
set_option maxHeartbeats 4000000 in
theorem build_any (a0 a1 : Option Addr) (n c0 c1 : Nat) (ss : List ByteArray) (rows : List (List Nat)) (w : World) (hS : SArg w a0 n ss) (hN : NArg w a1 n rows) (hn : n ≤ 4096) (hd : Dist ss n) (hw : Within rows n) (hM : ∀ q, (rowAt rows q).length ≤ 1048576)
    (hsl : ∀ j, (sAt ss j).size ≤ maxLen) :
    Calls Try.prog 6 #[.slice a0 n c0, .slice a1 n c1] w fun e w' => ∃ L gN gS bm D, e = .returned (.pointer (some ⟨L, 0, none⟩)) ∧ Hid (Lat w' L gN gS bm n ss rows D) ∧ Hid (Places D ss n) ∧ Below w.heap.size w w' := by
  obtain ⟨i9, hi9, hz90, hz91, hz92⟩ := info_parts Try.info9
  obtain ⟨i25, hi25, hz250, hz251, hz252⟩ := info_parts Try.info25
  obtain ⟨i3, hi3, hz30, hz31, hz32⟩ := info_parts Try.info3
  have hb9 : i9.bytes * n ≤ 281474976710656 := by rw [hz92]; omega
  have hb25 : i25.bytes * n ≤ 281474976710656 := by rw [hz252]; omega
  have hmx : n ≤ maxLen := by unfold maxLen; omega
  have HS := hide_of hS
  have HN := hide_of hN
  have HD := hide_of hd
  have HW := hide_of hw
  have HM := hide_of hM
  have HSL := hide_of hsl
  have q25 : ∀ (w : World) (a : Option Addr) (n c n' c' : Nat), (binOp .eql 25 (.slice a n c) (.slice none n' c')).run Try.prog w = .ok (.bool a.isNone) w := fun w a n c n' c' => Lib.run_eql_slice_nil w _ _ a n c n' c' Try.underlying25
  clear hS hN hd hw hM hsl
  go_enter Try.func6, Try.ntmps6
  go_wp2_with (at_make; refine wpList_make_full _ rfl _ _ 22 rfl w.heap.size 9 i9 (.string ByteArray.empty) 1 Try.underlying22 hi9 hz90 hz91 .i64 .i64 _ _ n rfl rfl rfl rfl hb9 hmx (Nat.le_refl _) ?_; intro w1 hown1 hgrow1)
  have HO1 := hide_of hown1
  have HB1 : Hid (Below w.heap.size w w1) := (Below.refl _ _).grown hgrow1 (Nat.le_refl _) (fun k hk => by cases hk)
  clear hown1 hgrow1
  go_loopw [7] (fun t wr => ∃ (k : Nat) (xs : List Value), k ≤ n ∧ t = .int .i64 k ∧ wr.ownsRow w.heap.size 9 1 (.slice (some ⟨w.heap.size, 0, none⟩) n n) n xs ∧ Hid (∀ (j : Nat) (s : ByteArray), j < k → ss[j]? = some s → xs[j]? = some (Value.string s)) ∧ Below w.heap.size w wr) (fun t _ => n - (intOf t).toNat)
  case atStart => exact ⟨0, _, Nat.zero_le _, rfl, HO1.out, fun j s h => absurd h (Nat.not_lt_zero j), HB1.out⟩
  case round =>
    obtain ⟨k, xs, hk, rfl, hown, HX, hbel⟩ := hrel
    clear HO1 HB1
    have HO := hide_of hown
    have HB := hide_of hbel
    clear hown hbel
    by_cases hlt : k < n
    · obtain ⟨b, off, rfl, hb, hc⟩ := HS.out.cells (by omega)
      have hks := sAt_some (ss := ss) (j := k) (by have := HS.out.len; omega)
      have cc : wr.cell? ⟨b, off + k, none⟩ = some (.string (sAt ss k)) := (HB.out.cell (p := ⟨b, off + k, none⟩) hb).trans (hc k _ hks)
      have hxl : xs.length = n := by have := HO.out.1; omega
      obtain ⟨x2, c2⟩ : ∃ x2, wr.cell? ⟨w.heap.size, k, none⟩ = some x2 := ⟨xs[k]'(by omega), by rw [HO.out.cellAt k (by omega), List.getElem?_eq_getElem (by omega)]⟩
      have f2 := HO.out.frozenAt k
      have HR := hide_of (HO.out.stored k (.string (sAt ss k))).1
      have HX2 : Hid (∀ (j : Nat) (s : ByteArray), j < k + 1 → ss[j]? = some s → (xs.set k (Value.string (sAt ss k)))[j]? = some (Value.string s)) := fun j s hj hjs => by
        rw [List.getElem?_set]
        by_cases e : k = j
        · subst e
          rw [hks] at hjs
          cases hjs
          simp [hxl, hlt]
        · rw [if_neg e]; exact HX.out j s (by omega) hjs
      have HB2 : Hid (Below w.heap.size w (wr.setCell ⟨w.heap.size, k, none⟩ (.string (sAt ss k)))) := HB.out.setCell (Nat.le_refl _) _
      clear hc hks hxl
      go_wp2
      go_roundw
      case rel => exact ⟨k + 1, _, by omega, by go_num, HR.out, HX2, HB2.out⟩
      case measure => simp [intOf]; omega
    · have hkn : n = k := by omega
      subst hkn
      have HNM : Hid (wr.ownsRow w.heap.size 9 1 (.slice (some ⟨w.heap.size, 0, none⟩) n n) n (sv ss)) := by
        have e : xs = sv ss := sv_ext (by have := HO.out.1; have := HS.out.len; omega) (fun j s hj => HX.out j s (by have := (List.getElem?_eq_some_iff.1 hj).1; have := HS.out.len; omega) hj)
        show wr.ownsRow _ _ _ _ _ _
        rw [← e]; exact HO.out
      clear HO HX
      obtain ⟨wa, hwa⟩ : ∃ wa, wa = wr := ⟨_, rfl⟩
      subst hwa
      go_wp2_with (at_make; refine wpList_make_full _ rfl _ _ 23 rfl wa.heap.size 25 i25 (.slice none 0 0) 1 Try.underlying23 hi25 hz250 hz251 .i64 .i64 _ _ n rfl rfl rfl rfl hb25 hmx (Nat.le_refl _) ?_; intro w2 hown2 hgrow2)
      have HS0 := hide_of (SbTo.start (rows := rows) hown2)
      have HB2 : Hid (Below wa.heap.size wa w2) := (Below.refl _ _).grown hgrow2 (Nat.le_refl _) (fun k hk => by cases hk)
      clear hown2 hgrow2
      go_loopw [9] (fun t wr => ∃ q : Nat, q ≤ n ∧ t = .int .i64 q ∧ Hid (SbTo wr wa.heap.size n rows q) ∧ Below wa.heap.size wa wr) (fun t _ => n - (intOf t).toNat)
      case atStart => exact ⟨0, Nat.zero_le _, rfl, HS0, HB2.out⟩
      case round =>
        obtain ⟨q, hq, rfl, HSb, hbel⟩ := hrel
        clear HS0 HB2
        have HBq := hide_of hbel
        clear hbel
        obtain ⟨wq, hwq⟩ : ∃ wq, wq = wr := ⟨_, rfl⟩
        subst hwq
        by_cases hlt : q < n
        · obtain ⟨b, off, rfl, hb, hc⟩ := HN.out (by omega)
          obtain ⟨A, C, cc0, hrow⟩ := hc q hlt
          have hbB : b < wa.heap.size := Nat.lt_of_lt_of_le hb HB.out.size
          have cc : wq.cell? ⟨b, off + q, none⟩ = some (.slice A (rowAt rows q).length C) := (HBq.out.cell (p := ⟨b, off + q, none⟩) hbB).trans ((HB.out.cell (p := ⟨b, off + q, none⟩) hb).trans cc0)
          have HRow := hide_of hrow
          have hrl := HM.out q
          clear hc cc0 hrow
          cases A with
          | none =>
            have hr0 : rowAt rows q = [] := by
              refine List.eq_nil_of_length_eq_zero (Nat.eq_zero_of_not_pos fun hp => ?_)
              obtain ⟨b', off', e, _⟩ := HRow.out hp
              cases e
            have HS1 := hide_of (HSb.out.skip hlt hr0)
            clear hr0
            go_wp2
            go_roundw
            case rel => exact ⟨q + 1, by omega, by go_num, HS1, HBq.out⟩
            case measure => simp [intOf]; omega
          | some x =>
            obtain ⟨r, hr⟩ : ∃ r, r = rowAt rows q := ⟨_, rfl⟩
            rw [← hr] at cc HRow hrl
            have HR := hide_of hr
            clear hr
            have hb3 : i3.bytes * r.length ≤ 281474976710656 := by rw [hz32]; omega
            have hmx3 : r.length ≤ maxLen := by unfold maxLen; omega
            go_wp2_with (at_make; refine wpList_make_full _ rfl _ _ 25 rfl wq.heap.size 3 i3 (.int .i64 0) 1 Try.underlying25 hi3 hz30 hz31 .i64 .i64 _ _ r.length rfl rfl rfl rfl hb3 hmx3 (Nat.le_refl _) ?_; intro w3 hown3 hgrow3)
            have HO3 := hide_of hown3
            have HB3 : Hid (Below wq.heap.size wq w3) := (Below.refl _ _).grown hgrow3 (Nat.le_refl _) (fun k hk => by cases hk)
            clear hown3 hgrow3
            have hbq : b < wq.heap.size := Nat.lt_of_lt_of_le hbB HBq.out.size
            go_loopw [11] (fun t wi => ∃ (k : Nat) (xs : List Value), k ≤ r.length ∧ t = .int .i64 k ∧ wi.ownsRow wq.heap.size 3 1 (.slice (some ⟨wq.heap.size, 0, none⟩) r.length r.length) r.length xs ∧ Hid (∀ (j x : Nat), j < k → r[j]? = some x → xs[j]? = some (Value.int .i64 (x : Int))) ∧ Below wq.heap.size wq wi) (fun t _ => r.length - (intOf t).toNat)
            case atStart => exact ⟨0, _, Nat.zero_le _, rfl, HO3.out, fun j s h => absurd h (Nat.not_lt_zero j), HB3.out⟩
            case round =>
              obtain ⟨k, xs, hk, rfl, hown, HX, hbel⟩ := hrel
              clear HO3 HB3
              have HO := hide_of hown
              have HBi := hide_of hbel
              clear hown hbel
              have cc2 : wr.cell? ⟨b, off + q, none⟩ = some (.slice (some x) r.length C) := (HBi.out.cell (p := ⟨b, off + q, none⟩) hbq).trans cc
              by_cases hlk : k < r.length
              · obtain ⟨b', off', e0, hb', hc'⟩ := HRow.out (by omega)
                cases e0
                obtain ⟨y, hy⟩ : ∃ y, r[k]? = some y := ⟨r[k], List.getElem?_eq_getElem hlk⟩
                have c3 : wr.cell? ⟨b', off' + k, none⟩ = some (.int .i64 (y : Int)) := by
                  rw [HBi.out.cell (p := ⟨b', off' + k, none⟩) (Nat.lt_of_lt_of_le hb' (Nat.le_trans HB.out.size HBq.out.size)), HBq.out.cell (p := ⟨b', off' + k, none⟩) (Nat.lt_of_lt_of_le hb' HB.out.size), HB.out.cell (p := ⟨b', off' + k, none⟩) hb']
                  exact hc' k y hy
                have hxl : xs.length = r.length := by have := HO.out.1; omega
                obtain ⟨x2, c2⟩ : ∃ x2, wr.cell? ⟨wq.heap.size, k, none⟩ = some x2 := ⟨xs[k]'(by omega), by rw [HO.out.cellAt k (by omega), List.getElem?_eq_getElem (by omega)]⟩
                have f2 := HO.out.frozenAt k
                have HR2 := hide_of (HO.out.stored k (.int .i64 (y : Int))).1
                have HX2 : Hid (∀ (j x : Nat), j < k + 1 → r[j]? = some x → (xs.set k (Value.int .i64 (y : Int)))[j]? = some (Value.int .i64 (x : Int))) := fun j s hj hjs => by
                  rw [List.getElem?_set]
                  by_cases e : k = j
                  · subst e
                    rw [hy] at hjs
                    cases hjs
                    simp [hxl, hlk]
                  · rw [if_neg e]; exact HX.out j s (by omega) hjs
                have HB4 : Hid (Below wq.heap.size wq (wr.setCell ⟨wq.heap.size, k, none⟩ (.int .i64 (y : Int)))) := HBi.out.setCell (Nat.le_refl _) _
                clear hc' hy hxl
                go_wp2
                go_roundw
                case rel => exact ⟨k + 1, _, by omega, by go_num, HR2.out, HX2, HB4.out⟩
                case measure => simp [intOf]; omega
              · have e : xs = iv r := iv_ext (by have := HO.out.1; omega) (fun j s hj => HX.out j s (by have := (List.getElem?_eq_some_iff.1 hj).1; omega) hj)
                subst e
                have HSi := hide_of (HSb.out.stays HBi.out)
                obtain ⟨⟨x2, c2⟩, f2, hlt2⟩ := HSi.out.cell hlt
                have hsz : wa.heap.size + 1 ≤ wq.heap.size := (HSb.out.cell hlt).2.2
                have HSn := hide_of (HSi.out.put hlt (v := .slice (some ⟨wq.heap.size, 0, none⟩) r.length r.length) (by rw [← HR.out]; exact owns_base HO.out hsz))
                have HBn : Hid (Below wa.heap.size wa (wr.setCell ⟨wa.heap.size, q, none⟩ (.slice (some ⟨wq.heap.size, 0, none⟩) r.length r.length))) := (HBq.out.trans (HBi.out.mono (by omega))).setCell (Nat.le_refl _) _
                clear cc
                go_wp2
                go_roundw
                case rel => exact ⟨q + 1, by omega, by go_num, HSn, HBn.out⟩
                case measure => simp [intOf]; omega
        · have hqn : n = q := by omega
          subst hqn
          have HGr := hide_of HSb.out.grid
          have hmm := run_make26 (n : Int)
          go_wp2_with fail
          go_loopw [13] (fun t wr => ∃ (k : Nat) (D : DataW Unit), k ≤ n ∧ t = .int .i64 k ∧ wr.ownsMap Try.prog 9 (plainElem Try.prog 3) wq.heap.size k D ∧ Hid (Places D ss k) ∧ Below wq.heap.size wq wr) (fun t _ => n - (intOf t).toNat)
          case atStart => exact ⟨0, _, Nat.zero_le _, rfl, World.ownsMap_made _ _ _ _, places_start ss, (Below.refl _ _).alloc (Nat.le_refl _) _⟩
          case round =>
            obtain ⟨k, D, hk, rfl, hmap, HPl, hbel⟩ := hrel
            clear hmm
            have HMp := hide_of hmap
            have HBm := hide_of hbel
            clear hmap hbel
            by_cases hlt : k < n
            · have HNq : Hid (wr.ownsRow w.heap.size 9 1 (.slice (some ⟨w.heap.size, 0, none⟩) n n) n (sv ss)) := owns_stays (owns_stays HNM.out HBq.out) HBm.out
              have hks := sAt_some (ss := ss) (j := k) (by have := HS.out.len; omega)
              have cc : wr.cell? ⟨w.heap.size, k, none⟩ = some (.string (sAt ss k)) := by
                rw [HNq.out.cellAt k (by omega)]; exact sv_get _ _ _ hks
              have HK := hide_of (WideMaps.keyOf_string_mk (P := Try.prog) (k := 9) Try.underlying9 (HSL.out k))
              have HP2 := hide_of (places_step HPl.out hks (fun j hj => HD.out j k _ hj hlt hks))
              have hkm : k < maxLen := by unfold maxLen; omega
              clear hks HNq
              go_wp2_with (at_mapUpdate; refine wpList_mapUpdate_own _ rfl _ _ _ 26 rfl 9 3 law9 Try.underlying26 _ wq.heap.size k D rfl HMp.out hkm _ _ _ rfl rfl HK.out _ [] (plainElem_int Try.underlying3 (WalkArith.wf_i64 (by omega))) ?_; intro w4 hown4 hgrow4)
              have HO4 := hide_of hown4
              have HB4 : Hid (Below wq.heap.size wq w4) := HBm.out.grown hgrow4 HBm.out.size (fun j hj => by cases hj; exact Nat.le_refl _)
              clear hown4 hgrow4
              go_roundw
              case rel => exact ⟨k + 1, _, by omega, by go_num, HO4.out, HP2, HB4.out⟩
              case measure => simp [intOf]; omega
            · have hkn : n = k := by omega
              subst hkn
              obtain ⟨wm, hwm⟩ : ∃ wm, wm = wr := ⟨_, rfl⟩
              subst hwm
              go_wp2_with (at_make; refine wpList_make_full _ rfl _ _ 23 rfl wm.heap.size 25 i25 (.slice none 0 0) 1 Try.underlying23 hi25 hz250 hz251 .i64 .i64 _ _ n rfl rfl rfl rfl hb25 hmx (Nat.le_refl _) ?_; intro w5 hown5 hgrow5)
              have HS5 := hide_of (SupTo.start hown5)
              have HB5 : Hid (Below wm.heap.size wm w5) := (Below.refl _ _).grown hgrow5 (Nat.le_refl _) (fun k hk => by cases hk)
              have HGm := hide_of (HGr.out.stays HBm.out)
              clear hown5 hgrow5
              go_loopw [15] (fun t wr => ∃ q : Nat, q ≤ n ∧ t = .int .i64 q ∧ Hid (SupTo wr wm.heap.size n (supB q 0)) ∧ Below wm.heap.size wm wr) (fun t _ => n - (intOf t).toNat)
              case atStart => exact ⟨0, Nat.zero_le _, rfl, HS5.out.mono (Nat.zero_le _), HB5.out⟩
              case round =>
                obtain ⟨q, hq, rfl, HSp, hbel⟩ := hrel
                clear HS5 HB5
                have HBs := hide_of hbel
                clear hbel
                obtain ⟨ws, hws⟩ : ∃ ws, ws = wr := ⟨_, rfl⟩
                subst hws
                by_cases hlq : q < n
                · obtain ⟨v, hcv, hov⟩ := HGm.out.at hlq
                  obtain ⟨A, C, rfl, hnr⟩ := owns_shape hov
                  have HNr := hide_of hnr
                  have hrl := HM.out q
                  have hwi : ∀ k x, (rowAt rows q)[k]? = some x → x < n := fun k x hk => HW.out q x (List.mem_of_getElem? hk)
                  have HWi := hide_of hwi
                  clear hov hnr hwi
                  generalize rowAt rows q = r at hcv HNr hrl HWi
                  have HCv := hide_of hcv
                  clear hcv
                  go_wp2_with fail
                  go_loopw [16] (fun t wr => ∃ k : Nat, k ≤ r.length ∧ t = .int .i64 k ∧ Hid (SupTo wr wm.heap.size n (supB q k)) ∧ Below wm.heap.size wm wr) (fun t _ => r.length - (intOf t).toNat)
                  case atStart => exact ⟨0, Nat.zero_le _, rfl, HSp, HBs.out⟩
                  case round =>
                    obtain ⟨k, hk, rfl, HSi, hbel⟩ := hrel
                    have HBi := hide_of hbel
                    clear hbel
                    have cc2 : wr.cell? ⟨wa.heap.size, q, none⟩ = some (.slice A r.length C) := (HBi.out.cell (p := ⟨wa.heap.size, q, none⟩) (HGm.out.lt)).trans HCv.out
                    by_cases hlk : k < r.length
                    · obtain ⟨b', off', e0, hb', hc'⟩ := HNr.out (by omega)
                      cases e0
                      obtain ⟨s, hs⟩ : ∃ s, r[k]? = some s := ⟨r[k], List.getElem?_eq_getElem hlk⟩
                      have hsn := HWi.out k s hs
                      have c3 : wr.cell? ⟨b', off' + k, none⟩ = some (.int .i64 (s : Int)) := (HBi.out.cell (p := ⟨b', off' + k, none⟩) hb').trans (hc' k s hs)
                      obtain ⟨u, l, xs, c4, hou, hlb, hback⟩ := HSi.out.at hsn
                      have hbig := supB_le (q := q) (k := k) hq hn (by omega)
                      have HOu := hide_of hou
                      have HBk := hide_of hback
                      have hll : l ≤ 5000000000 := by omega
                      have hwz : wm.heap.size + 1 ≤ wr.heap.size := World.block_lt_of_cell? wr _ c4
                      clear hou hback hs hc' hlb hbig
                      obtain ⟨A1, C1, rfl⟩ := owns_form HOu.out
                      go_wp2_with (at_builtin; refine wpList_append_own_at _ rfl (.tmp 117) (.tmp 119) 25 rfl (wm.heap.size + 1) 3 i3 (.int .i64 0) 1 8 Try.underlying25 hi3 hz30 hz31 hz32 rfl (by decide) _ l xs rfl (HOu.out.alloc _) ⟨wr.heap.size, 0, none⟩ 1 1 (iv [q]) rfl rfl (lit_cell _ _ _ _ rfl) (iv_one _) (by unfold maxLen; omega) (by omega) (by simp; omega) ?_; intro v' w' hown' hgrow _ hloc; have R := HBk.out _ _ _ _ (.inr ⟨_, rfl⟩) hgrow hown' hloc; obtain ⟨A2, C2, rfl⟩ := owns_form hown'; obtain ⟨R1, ⟨x2, c5⟩, f5⟩ := R; have HR1 := hide_of R1; have HB6 : Hid (Below wm.heap.size wm w') := (HBi.out.alloc HBi.out.size _).grown hgrow (by have := HBi.out.size; simp; omega) (fun j hj => by have := (HOu.out.lt j hj).1; omega); clear hown' hgrow hloc R1)
                      go_roundw
                      case rel => exact ⟨k + 1, by omega, by go_num, by rw [supB_succ]; exact HR1, HB6.out.setCell (Nat.le_refl _) _⟩
                      case measure => simp [intOf]; omega
                    · have HS6 : Hid (SupTo wr wm.heap.size n (supB (q + 1) 0)) := HSi.out.mono (supB_next (by omega))
                      go_wp2
                      go_roundw
                      case rel => exact ⟨q + 1, by omega, by go_num, HS6, HBi.out⟩
                      case measure => simp [intOf]; omega
                · have hqn : n = q := by omega
                  subst hqn
                  go_wp2_with (at_make; refine wpList_make_full _ rfl _ _ 23 rfl ws.heap.size 25 i25 (.slice none 0 0) 1 Try.underlying23 hi25 hz250 hz251 .i64 .i64 _ _ n rfl rfl rfl rfl hb25 hmx (Nat.le_refl _) ?_; intro w7 hown7 hgrow7)
                  have HB7 : Hid (Below ws.heap.size ws w7) := (Below.refl _ _).grown hgrow7 (Nat.le_refl _) (fun k hk => by cases hk)
                  clear hown7 hgrow7
                  refine (newLat_any _ _ _ _ _ _ _ _ _ _ _ _ _ _).mono ?_
                  rintro e w8 ⟨rfl, rfl⟩
                  have B7 := hide_of (below_tr HBm.out (below_tr HBs.out HB7.out))
                  have HB8 := hide_of (below_tr HB.out (below_tr HBq.out (below_tr B7.out ((Below.refl _ _).alloc (Nat.le_refl _) (.cells #[.slice (some ⟨w.heap.size, 0, none⟩) n n, .map (some wq.heap.size), .slice (some ⟨wm.heap.size, 0, none⟩) n n, .slice (some ⟨wa.heap.size, 0, none⟩) n n, .slice (some ⟨ws.heap.size, 0, none⟩) n n] 36)))))
                  have HLat := hide_of (lat_made (w := w7) (v2 := .slice (some ⟨wm.heap.size, 0, none⟩) n n) (v4 := .slice (some ⟨ws.heap.size, 0, none⟩) n n) (owns_stays (owns_stays HNM.out HBq.out) B7.out) (HGr.out.stays B7.out) (map_stays HMp.out (below_tr HBs.out HB7.out)))
                  go_wp2
                  go_ret
                  exact ⟨_, _, _, _, _, rfl, HLat, HPl, HB8.out⟩
end Go.Proofs.Qxb6628176a
