import Derived.Test.Qxb6628176aNames
import Derived.Deep.RegionWith
import Derived.Deep.RegionHeld3
import Derived.Deep.DeepCutAuto
namespace Go.Proofs.Qxb6628176a
open Go.RowKit Go.Maps
set_option linter.unusedVariables false

theorem law9 : Keyed Try.prog 9 := string_keyed Try.underlying9
theorem zero3 (w : World) : (zeroValue 3).run Try.prog w = .ok (.int .i64 0) w := by kernel_rfl

theorem bcell {W w1 : World} (hb : Below W.heap.size W w1) : (∀ b o, b < W.heap.size → w1.cell? ⟨b, o, none⟩ = W.cell? ⟨b, o, none⟩) ∧ (∀ b o, b < W.heap.size → w1.frozen? ⟨b, o, none⟩ = W.frozen? ⟨b, o, none⟩) :=
  ⟨fun b o h => hb.cell (p := ⟨b, o, none⟩) h, fun b o h => hb.frozen (p := ⟨b, o, none⟩) h⟩

/-- The map from a name to its place, for the first k names. -/
structure Places (D : DataW Unit) (ss : List ByteArray) (k : Nat) : Prop where
  ismap : Maps.IsMap D
  hit : ∀ j s, j < k → ss[j]? = some s → Maps.has D (.string s.data.toList) = true ∧ D.atKey (.string s.data.toList) (.lit (.int .i64 0)) = .lit (.int .i64 (j : Int))
  miss : ∀ s, (∀ j, j < k → ss[j]? ≠ some s) → Maps.has D (.string s.data.toList) = false

theorem last_cell {W : World} {V t : Nat} {u : Value} (o : Unit) (hV : W.heap.size = V) : (W.alloc (.cells #[u] t)).drew.cell? ⟨V, 0, none⟩ = some u := by
  subst hV; exact World.cell?_alloc_mark W _ t (0, 0) 0

theorem prev_cell (w : World) (o : Obj) {t : Nat} {u : Value} : ((w.alloc (.cells #[u] t)).alloc o).drew.cell? ⟨w.heap.size, 0, none⟩ = some u := by
  show ((w.alloc (.cells #[u] t)).alloc o).cell? ⟨w.heap.size, 0, none⟩ = some u
  rw [World.cell?_alloc_past _ _ _ (by simp)]
  exact World.cell?_alloc_mark w _ t (0, 0) 0

/-- The variable 'seen' is laid behind the search. -/
theorem fin_new {w W w2 : World} {S n p : Nat} {seen : List Bool} {rows : List (List Nat)} (hW : Below w.heap.size w W) (hb : Below W.heap.size W w2) (hS : W.heap.size = S)
    (ho : w2.ownsRow W.heap.size 4 1 (.slice (some ⟨W.heap.size, 0, none⟩) n n) n (bv seen)) (HM : Hid (Marks rows n p seen)) :
    (w2.alloc (.cells #[.slice (some ⟨S, 0, none⟩) n n] 32)).cell? ⟨w2.heap.size, 0, none⟩ = some (.slice (some ⟨S, 0, none⟩) n n) ∧
    (w2.alloc (.cells #[.slice (some ⟨S, 0, none⟩) n n] 32)).ownsRow 0 4 1 (.slice (some ⟨S, 0, none⟩) n n) n (bv seen) ∧ Hid (Marks rows n p seen) ∧ Below w.heap.size w (w2.alloc (.cells #[.slice (some ⟨S, 0, none⟩) n n] 32)) := by
  subst hS
  refine ⟨World.cell?_alloc_mark w2 _ 32 (0, 0) 0, (owns_base ho (Nat.zero_le _)).alloc _, HM, ?_⟩
  exact (below_tr hW hb).alloc (below_tr hW hb).size _

/-- The variable 'seen' has been laid ahead of it. -/
theorem fin_set {w W w2 : World} {V S n p : Nat} {seen : List Bool} {rows : List (List Nat)} {u : Value} (hW : Below w.heap.size w W) (hb : Below W.heap.size W w2) (hS : W.heap.size = S) (hV : w.heap.size ≤ V) (hV2 : V < W.heap.size)
    (hc : W.cell? ⟨V, 0, none⟩ = some u) (ho : w2.ownsRow W.heap.size 4 1 (.slice (some ⟨W.heap.size, 0, none⟩) n n) n (bv seen)) (HM : Hid (Marks rows n p seen)) :
    (w2.setCell ⟨V, 0, none⟩ (.slice (some ⟨S, 0, none⟩) n n)).cell? ⟨V, 0, none⟩ = some (.slice (some ⟨S, 0, none⟩) n n) ∧
    (w2.setCell ⟨V, 0, none⟩ (.slice (some ⟨S, 0, none⟩) n n)).ownsRow 0 4 1 (.slice (some ⟨S, 0, none⟩) n n) n (bv seen) ∧ Hid (Marks rows n p seen) ∧ Below w.heap.size w (w2.setCell ⟨V, 0, none⟩ (.slice (some ⟨S, 0, none⟩) n n)) := by
  subst hS
  have hc2 : w2.cell? ⟨V, 0, none⟩ = some u := (hb.cell (p := ⟨V, 0, none⟩) hV2).trans hc
  refine ⟨World.cell?_setCell_same _ _ _ hc2, owns_base (ownsRow_setCell_below ho hV2 _) (Nat.zero_le _), HM, ?_⟩
  exact (below_tr hW hb).setCell hV _

set_option maxRecDepth 100000 in
set_option maxHeartbeats 1000000 in
theorem below_no (L gN gS bm n : Nat) (ss : List ByteArray) (rows : List (List Nat)) (D : DataW Unit) (name : ByteArray) (w : World) (hL : Lat w L gN gS bm n ss rows D) (hs : name.size ≤ maxLen) (hno : Maps.has D (.string name.data.toList) = false) :
    Calls Try.prog 7 #[.pointer (some ⟨L, 0, none⟩), .string name] w fun e w' => e = .returned (.tuple #[.slice none 0 0, .bool false]) ∧ w' = w := by
  have c1 := hL.c1
  have HL := hide_of hL
  have HK := hide_of (WideMaps.keyOf_string_mk (P := Try.prog) (k := 9) Try.underlying9 hs)
  clear hL
  go_enter Try.func7, Try.ntmps7
  go_wp2_with (at_lookup; refine wpList_lookup_own_ok_int _ rfl _ _ 26 rfl 9 3 .i64 law9 Try.underlying26 Try.underlying3 (zero3 _) bm n D rfl HL.out.map _ _ rfl HK.out ?_; intro c hat hwc; rw [hno])
  go_ret2
  exact ⟨rfl, rfl⟩

set_option maxRecDepth 100000 in
set_option maxHeartbeats 1000000 in
theorem below_yes (L gN gS bm n p M : Nat) (ss : List ByteArray) (rows : List (List Nat)) (D : DataW Unit) (name : ByteArray) (w : World) (hL : Lat w L gN gS bm n ss rows D) (hs : name.size ≤ maxLen) (hyes : Maps.has D (.string name.data.toList) = true)
    (hat0 : D.atKey (.string name.data.toList) (.lit (.int .i64 0)) = .lit (.int .i64 (p : Int))) (hw : Within rows n) (hM : ∀ q, (rowAt rows q).length ≤ M) (hn : n ≤ 4096) (hMb : M ≤ 1048576) (hp : p < n) :
    Calls Try.prog 7 #[.pointer (some ⟨L, 0, none⟩), .string name] w fun e w' => ∃ v seen, e = .returned (.tuple #[v, .bool true]) ∧ w'.ownsRow w.heap.size 9 1 v (pick ss seen n).length (sv (pick ss seen n)) ∧ Hid (Marks rows n p seen) ∧ Below w.heap.size w w' := by
  have c1 := hL.c1
  have c0 := hL.c0
  have c3 := hL.c3
  have hLl : L < w.heap.size := World.block_lt_of_cell? w _ hL.c0
  have nn0 : w.heap.size ≠ L := by omega
  have nn1 : w.heap.size + 1 ≠ L := by omega
  have HL := hide_of hL
  have HK := hide_of (WideMaps.keyOf_string_mk (P := Try.prog) (k := 9) Try.underlying9 hs)
  have HA := hide_of hat0
  have HY := hide_of hyes
  have HW := hide_of hw
  have HM := hide_of hM
  clear hL hat0 hyes hw hM
  go_enter Try.func7, Try.ntmps7
  go_wp2_with (at_lookup; refine wpList_lookup_own_ok_int _ rfl _ _ 26 rfl 9 3 .i64 law9 Try.underlying26 Try.underlying3 (zero3 _) bm n D rfl HL.out.map _ _ rfl HK.out ?_; intro c hat hwc; rw [HY.out]; have hcp : c = (p : Int) := (by have h := hat.symm.trans HA.out; simpa using h); subst hcp; clear hat hwc)
  go_cut [7] (fun t wc => ∃ (V S : Nat) (seen : List Bool), t = .pointer (some ⟨V, 0, none⟩) ∧ wc.cell? ⟨V, 0, none⟩ = some (.slice (some ⟨S, 0, none⟩) n n) ∧ wc.ownsRow 0 4 1 (.slice (some ⟨S, 0, none⟩) n n) n (bv seen) ∧ Hid (Marks rows n p seen) ∧ Below w.heap.size w wc)
  case first =>
    go_region_held3 (fun w' => w'.cell? ⟨L, 0, none⟩ = some (.slice (some ⟨gN, 0, none⟩) n n) ∧ w'.cell? ⟨L, 3, none⟩ = some (.slice (some ⟨gS, 0, none⟩) n n))
      (go_keep)
      (first | (go_at_call 11; refine (along_any _ _ rfl).mono ?_; rintro e w1 ⟨rfl, rfl⟩) | (go_at_call 10; refine (reached_any n p _ gS M rows _ (by go_simp) (HL.out.grid.stays (by repeat (first | exact Below.refl _ _ | refine Below.drew ?_ | refine Below.alloc ?_ (by simp; try omega) _))) HW.out HM.out hn hMb hp).mono ?_; rintro e w2 ⟨rfl, seen, ho, HMk, hb⟩; have Hos := hide_of ho; have Hbs := hide_of hb; obtain ⟨hc, hf⟩ := bcell hb; have k0 : w2.cell? ⟨L, 0, none⟩ = some (.slice (some ⟨gN, 0, none⟩) n n) := (hc L 0 (by simp; omega)).trans (by go_keep); have k3 : w2.cell? ⟨L, 3, none⟩ = some (.slice (some ⟨gS, 0, none⟩) n n) := (hc L 3 (by simp; omega)).trans (by go_keep); have hzz := hb.size; simp at hzz; clear ho hb))
    all_goals (go_wp2_with fail; go_meet)
    · exact ⟨w2.heap.size, w.heap.size + 1, seen, rfl, fin_new (S := w.heap.size + 1) (((Below.refl _ _).alloc (Nat.le_refl _) _).drew) Hbs.out (by simp) Hos.out HMk⟩
    · exact ⟨w.heap.size + 1, w.heap.size + 1 + 1, seen, rfl, fin_set (S := w.heap.size + 1 + 1) ((((Below.refl _ _).alloc (Nat.le_refl _) _).alloc (by simp) _).drew) Hbs.out (by simp) (Nat.le_succ _) (by simp) (u := .slice none 0 0) (last_cell () (by simp)) Hos.out HMk⟩
    · exact ⟨w.heap.size, w.heap.size + 1 + 1, seen, rfl, fin_set (S := w.heap.size + 1 + 1) ((((Below.refl _ _).alloc (Nat.le_refl _) _).alloc (by simp) _).drew) Hbs.out (by simp) (Nat.le_refl _) (by simp; omega) (u := .slice none 0 0) (prev_cell w _) Hos.out HMk⟩
  case rest =>
    obtain ⟨V, S, seen, rfl, hV, hS, HMk, hb⟩ := hcut
    have HV := hide_of hV
    have HS := hide_of hS
    have HB := hide_of hb
    clear hV hS hb c0 c1 c3
    go_wp2_with fail
    refine (namesWhere_any L gN gS bm n V S ss rows D seen _ (HL.out.stays HB.out) HV.out HS.out hn).mono ?_
    rintro e w3 ⟨v3, rfl, ho3, hb3⟩
    have HO3 := hide_of ho3
    have HB3 := hide_of hb3
    clear ho3 hb3
    go_wp2
    go_ret2
    exact ⟨v3, seen, rfl, owns_base HO3.out HB.out.size, HMk, below_tr HB.out HB3.out⟩
end Go.Proofs.Qxb6628176a
