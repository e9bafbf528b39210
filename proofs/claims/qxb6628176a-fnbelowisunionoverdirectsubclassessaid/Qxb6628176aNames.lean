import Derived.Test.Qxb6628176aReached
namespace Go.Proofs.Qxb6628176a
open Go.RowKit Go.Maps
set_option linter.unusedVariables false

/-- What a lattice's block holds. -/
structure Lat (w : World) (L gN gS bm n : Nat) (ss : List ByteArray) (rows : List (List Nat)) (D : DataW Unit) : Prop where
  c0 : w.cell? ⟨L, 0, none⟩ = some (.slice (some ⟨gN, 0, none⟩) n n)
  c1 : w.cell? ⟨L, 1, none⟩ = some (.map (some bm))
  c3 : w.cell? ⟨L, 3, none⟩ = some (.slice (some ⟨gS, 0, none⟩) n n)
  names : w.ownsRow 0 9 1 (.slice (some ⟨gN, 0, none⟩) n n) n (sv ss)
  grid : Grid w gS n rows
  map : w.ownsMap Try.prog 9 (plainElem Try.prog 3) bm n D

theorem Lat.stays {w w' : World} {L gN gS bm n : Nat} {ss : List ByteArray} {rows : List (List Nat)} {D : DataW Unit} (h : Lat w L gN gS bm n ss rows D) (hb : Below w.heap.size w w') : Lat w' L gN gS bm n ss rows D := by
  have hL : L < w.heap.size := World.block_lt_of_cell? w _ h.c0
  exact ⟨(hb.cell (p := ⟨L, 0, none⟩) hL).trans h.c0, (hb.cell (p := ⟨L, 1, none⟩) hL).trans h.c1, (hb.cell (p := ⟨L, 3, none⟩) hL).trans h.c3, owns_stays h.names hb, h.grid.stays hb, map_stays h.map hb⟩

theorem along_any (v : Value) (w : World) (hv : v.oneCell' = true) :
    Calls Try.prog 11 #[v] w fun e w' => e = .returned (.func (.func 14) #[] #[.pointer (some ⟨w.heap.size, 0, none⟩)]) ∧ w' = w.alloc (.cells #[v] 23) := by
  go_enter Try.func11, Try.ntmps11
  go_wp2
  go_ret
  exact ⟨rfl, rfl⟩

theorem is_seen (q V S n : Nat) (b : Bool) (w : World) (hV : w.cell? ⟨V, 0, none⟩ = some (.slice (some ⟨S, 0, none⟩) n n)) (hc : w.cell? ⟨S, q, none⟩ = some (.bool b)) (hq : q < n) (hn : n ≤ 4096) :
    Calls Try.prog 13 #[.int .i64 (q : Int), .pointer (some ⟨V, 0, none⟩)] w fun e w' => e = .returned (.bool b) ∧ w' = w := by
  go_enter Try.func13, Try.ntmps13
  go_wp2
  go_ret
  exact ⟨rfl, rfl⟩

/-- The names at the marked places below k. -/
def pick (ss : List ByteArray) (seen : List Bool) (k : Nat) : List ByteArray := (pos seen k).map fun q => ss.getD q ByteArray.empty

theorem pick_hit (ss : List ByteArray) (seen : List Bool) (k : Nat) (h : seen.getD k false = true) : pick ss seen (k + 1) = pick ss seen k ++ [ss.getD k ByteArray.empty] := by
  simp only [pick, pos, h, if_true, List.map_append, List.map_cons, List.map_nil]

theorem pick_miss (ss : List ByteArray) (seen : List Bool) (k : Nat) (h : seen.getD k false = false) : pick ss seen (k + 1) = pick ss seen k := by
  simp only [pick, pos, h, Bool.false_eq_true, if_false]

theorem pick_le (ss : List ByteArray) (seen : List Bool) (k : Nat) : (pick ss seen k).length ≤ k := by
  rw [pick, List.length_map]; exact pos_le seen k

theorem getD_some {l : List ByteArray} {k : Nat} (h : k < l.length) : l[k]? = some (l.getD k ByteArray.empty) := by
  simp [List.getD, h]

theorem getD_bool {l : List Bool} {k : Nat} (h : k < l.length) : l[k]? = some (l.getD k false) := by
  simp [List.getD, h]

set_option maxRecDepth 100000 in
set_option maxHeartbeats 1000000 in
theorem namesWhere_any (L gN gS bm n V S : Nat) (ss : List ByteArray) (rows : List (List Nat)) (D : DataW Unit) (seen : List Bool) (w : World) (hL : Lat w L gN gS bm n ss rows D) (hV : w.cell? ⟨V, 0, none⟩ = some (.slice (some ⟨S, 0, none⟩) n n))
    (hS : w.ownsRow 0 4 1 (.slice (some ⟨S, 0, none⟩) n n) n (bv seen)) (hn : n ≤ 4096) :
    Calls Try.prog 12 #[.pointer (some ⟨L, 0, none⟩), .func (.func 13) #[] #[.pointer (some ⟨V, 0, none⟩)]] w
      fun e w' => ∃ v, e = .returned v ∧ w'.ownsRow w.heap.size 9 1 v (pick ss seen n).length (sv (pick ss seen n)) ∧ Below w.heap.size w w' := by
  obtain ⟨i0, hi, hz0, hz1, hz2⟩ := info_parts Try.info9
  have HL := hide_of hL
  have HV := hide_of hV
  have HS := hide_of hS
  have c0 := hL.c0
  have hVl : V < w.heap.size := World.block_lt_of_cell? w _ hV
  have Hsl : Hid (seen.length = n ∧ ss.length = n) := by
    have h1 := hS.1
    have h2 := hL.names.1
    rw [bv_len] at h1
    rw [sv_len] at h2
    exact ⟨by omega, by omega⟩
  clear hL hV hS
  go_enter Try.func12, Try.ntmps12
  go_wp2
  go_loopw [5, 13] (fun v i wr => ∃ k : Nat, k ≤ n ∧ i = .int .i64 k ∧ wr.ownsRow w.heap.size 9 1 v (pick ss seen k).length (sv (pick ss seen k)) ∧ Below w.heap.size w wr) (fun _ i _ => n - (intOf i).toNat)
  case atStart => exact ⟨0, Nat.zero_le _, rfl, World.ownsRow_nil _ _ _ _, Below.refl _ _⟩
  case round =>
    obtain ⟨k, hk, rfl, hov, hbel⟩ := hrel
    clear c0
    have HO := hide_of hov
    have HB := hide_of hbel
    clear hov hbel
    have hpl := pick_le ss seen k
    by_cases hlt : k < n
    · have hcn : wr.cell? ⟨gN, k, none⟩ = some (.string (ss.getD k ByteArray.empty)) := by
        rw [(owns_stays HL.out.names HB.out).cellAt k (by omega)]
        exact sv_get _ _ _ (getD_some (by have := Hsl.out.2; omega))
      have HC : Hid (wr.cell? ⟨S, k, none⟩ = some (.bool (seen.getD k false))) := by
        show wr.cell? ⟨S, k, none⟩ = _
        rw [(owns_stays HS.out HB.out).cellAt k (by omega)]
        exact bv_get _ _ _ (getD_bool (by have := Hsl.out.1; omega))
      have HV2 : Hid (wr.cell? ⟨V, 0, none⟩ = some (.slice (some ⟨S, 0, none⟩) n n)) := (HB.out.cell (p := ⟨V, 0, none⟩) hVl).trans HV.out
      obtain ⟨nm, hnm⟩ : ∃ nm, nm = ss.getD k ByteArray.empty := ⟨_, rfl⟩
      rw [← hnm] at hcn
      have HN := hide_of hnm
      clear hnm
      cases hb : seen.getD k false with
      | true =>
        rw [hb] at HC
        have HP := hide_of (pick_hit ss seen k hb)
        clear hb
        go_wp2_with fail
        refine (is_seen k V S n true _ HV2.out HC.out hlt hn).mono ?_
        rintro e w1 ⟨rfl, rfl⟩
        go_wp2_with (at_builtin; refine wpList_append_own _ rfl (.tmp 21) (.tmp 23) 22 rfl w.heap.size 9 i0 (.string ByteArray.empty) 1 16 Try.underlying22 hi hz0 hz1 hz2 rfl (by decide) _ _ _ rfl (HO.out.alloc _) ⟨w1.heap.size, 0, none⟩ 1 1 (sv [nm]) rfl rfl (lit_cell _ _ _ _ rfl) (sv_one _) (by unfold maxLen; omega) (by omega) (by have := HB.out.size; simp; omega) ?_; intro v' w' hown' hgrow _)
        have HO2 : Hid (w'.ownsRow w.heap.size 9 1 v' (pick ss seen (k + 1)).length (sv (pick ss seen (k + 1)))) := by
          show w'.ownsRow _ _ _ _ _ _
          rw [HP.out, ← HN.out, List.length_append, sv_append]; exact hown'
        have HB2 : Hid (Below w.heap.size w w') := (HB.out.alloc HB.out.size _).grown hgrow (by have := HB.out.size; simp; omega) fun j hj => (HO.out.lt j hj).1
        clear hown' hgrow
        go_wp2
        go_roundw
        case rel => exact ⟨k + 1, by omega, by go_num, HO2.out, HB2.out⟩
        case measure => simp [intOf]; omega
      | false =>
        rw [hb] at HC
        have HP := hide_of (pick_miss ss seen k hb)
        clear hb
        go_wp2_with fail
        refine (is_seen k V S n false _ HV2.out HC.out hlt hn).mono ?_
        rintro e w1 ⟨rfl, rfl⟩
        go_wp2
        go_roundw
        case rel => exact ⟨k + 1, by omega, by go_num, by rw [HP.out]; exact HO.out, HB.out⟩
        case measure => simp [intOf]; omega
    · have hkn : k = n := by omega
      subst hkn
      go_wp2
      go_ret
      exact ⟨_, rfl, HO.out, HB.out⟩
end Go.Proofs.Qxb6628176a
