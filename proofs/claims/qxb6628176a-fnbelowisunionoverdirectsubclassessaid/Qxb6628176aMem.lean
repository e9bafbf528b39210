import Derived.Test.Qxb6628176aRows
import Derived.Test.Qxb6628176aPlain
import Derived.WalkKit
import Derived.Laws.IdiomStrings
import Derived.Laws.AppendOwnNone
import Derived.Maps.OwnSet
import Derived.Maps.AppendAt
namespace Go.Proofs.Qxb6628176a
open Go.RowKit Go.Maps
set_option linter.unusedVariables false

theorem Try.info3 : (Try.prog.info? 3).map (fun i => (i.zero, i.size, i.bytes)) = some (some (.int .i64 0), 1, 8) := by kernel_rfl
theorem Try.info4 : (Try.prog.info? 4).map (fun i => (i.zero, i.size, i.bytes)) = some (some (.bool false), 1, 1) := by kernel_rfl
theorem Try.info9 : (Try.prog.info? 9).map (fun i => (i.zero, i.size, i.bytes)) = some (some (.string ByteArray.empty), 1, 16) := by kernel_rfl
theorem Try.info25 : (Try.prog.info? 25).map (fun i => (i.zero, i.size, i.bytes)) = some (some (.slice none 0 0), 1, 24) := by kernel_rfl

def iv (l : List Nat) : List Value := l.map fun (x : Nat) => Value.int .i64 (x : Int)
def bv (l : List Bool) : List Value := l.map Value.bool
def sv (l : List ByteArray) : List Value := l.map Value.string

theorem iv_len (l : List Nat) : (iv l).length = l.length := by simp [iv]
theorem bv_len (l : List Bool) : (bv l).length = l.length := by simp [bv]
theorem sv_len (l : List ByteArray) : (sv l).length = l.length := by simp [sv]
theorem iv_get (l : List Nat) (j x : Nat) (h : l[j]? = some x) : (iv l)[j]? = some (.int .i64 (x : Int)) := by simp [iv, h]
theorem bv_get (l : List Bool) (j : Nat) (x : Bool) (h : l[j]? = some x) : (bv l)[j]? = some (.bool x) := by simp [bv, h]
theorem sv_get (l : List ByteArray) (j : Nat) (x : ByteArray) (h : l[j]? = some x) : (sv l)[j]? = some (.string x) := by simp [sv, h]
theorem iv_append (l m : List Nat) : iv (l ++ m) = iv l ++ iv m := by simp [iv]
theorem sv_append (l m : List ByteArray) : sv (l ++ m) = sv l ++ sv m := by simp [sv]
theorem iv_one (l : List Nat) : ∀ u ∈ iv l, u.oneCell' = true := by
  intro u hu
  simp only [iv, List.mem_map] at hu
  obtain ⟨b, _, rfl⟩ := hu
  rfl
theorem sv_one (l : List ByteArray) : ∀ u ∈ sv l, u.oneCell' = true := by
  intro u hu
  simp only [sv, List.mem_map] at hu
  obtain ⟨b, _, rfl⟩ := hu
  rfl
theorem bv_set (l : List Bool) (j : Nat) (x : Bool) : (bv l).set j (.bool x) = bv (l.set j x) := by simp [bv]

theorem hide_of {p : Prop} (h : p) : Hid p := h

section
variable {w w' : World} {base e size n : Nat} {v : Value} {xs : List Value}

theorem owns_base {base' : Nat} (h : w.ownsRow base e size v n xs) (hb : base' ≤ base) : w.ownsRow base' e size v n xs := by
  refine ⟨h.1, ?_⟩
  rcases h.2 with h | ⟨g, cap, cur, h1, h2, h3⟩
  · exact .inl h
  · exact .inr ⟨g, cap, cur, h1, Nat.le_trans hb h2, h3⟩

/-- A row whose block lies below B stays. -/
theorem owns_below {B : Nat} (h : w.ownsRow base e size v n xs) (hb : Below B w w') (hv : ∀ k, v.ownBlock = some k → k < B) : w'.ownsRow base e size v n xs := by
  refine ⟨h.1, ?_⟩
  rcases h.2 with h | ⟨g, cap, cur, h1, h2, h3, h4⟩
  · exact .inl h
  · exact .inr ⟨g, cap, cur, h1, h2, by rw [hb.block g (hv g (by rw [h1]; rfl))]; exact h3, h4⟩

theorem owns_stays (h : w.ownsRow base e size v n xs) (hb : Below w.heap.size w w') : w'.ownsRow base e size v n xs :=
  owns_below h hb fun k hk => (h.lt k hk).2

theorem map_stays {H : Type} {P : Program} {k b m : Nat} {R : Value → Option (DataW H × List MemPlace)} {D : DataW H} (h : w.ownsMap P k R b m D) (hb : Below w.heap.size w w') : w'.ownsMap P k R b m D := by
  have hl := h.lt
  obtain ⟨es, clock, h1, h2⟩ := h
  exact ⟨es, clock, by rw [hb.block b hl]; exact h1, h2⟩

theorem below_tr {A B C : World} (h : Below A.heap.size A B) (k : Below B.heap.size B C) : Below A.heap.size A C := h.trans (k.mono h.size)

/-- The cells of a literal that has just been laid. -/
theorem lit_cell (w : World) (C : Array Value) (t : TypeId) (news : List Value) (hC : C.toList = news) : ∀ j u, news[j]? = some u → (w.alloc (.cells C t)).cell? ((⟨w.heap.size, 0, none⟩ : Addr).add j) = some u := by
  intro j u hj
  have e := World.cell?_alloc_mark w C t (0, 0) j
  rw [Addr.add_lit, Nat.zero_add]
  refine e.trans ?_
  rw [← hC] at hj
  simpa using hj
end

/-- Block g holds n slices; slice q owns the row of place q. -/
def Grid (w : World) (g n : Nat) (rows : List (List Nat)) : Prop :=
  ∃ V, w.ownsRow 0 25 1 (.slice (some ⟨g, 0, none⟩) n n) n V ∧ ∀ q, q < n → ∃ v, V[q]? = some v ∧ w.ownsRow 0 3 1 v (rowAt rows q).length (iv (rowAt rows q))

theorem Grid.stays {w w' : World} {g n : Nat} {rows : List (List Nat)} (h : Grid w g n rows) (hb : Below w.heap.size w w') : Grid w' g n rows := by
  obtain ⟨V, h1, h2⟩ := h
  refine ⟨V, owns_stays h1 hb, fun q hq => ?_⟩
  obtain ⟨v, e, ho⟩ := h2 q hq
  exact ⟨v, e, owns_stays ho hb⟩

theorem Grid.at {w : World} {g n : Nat} {rows : List (List Nat)} (h : Grid w g n rows) {q : Nat} (hq : q < n) : ∃ v, w.cell? ⟨g, q, none⟩ = some v ∧ w.ownsRow 0 3 1 v (rowAt rows q).length (iv (rowAt rows q)) := by
  obtain ⟨V, h1, h2⟩ := h
  obtain ⟨v, e, ho⟩ := h2 q hq
  exact ⟨v, by rw [h1.cellAt q (by omega)]; exact e, ho⟩

set_option maxHeartbeats 1000000 in
theorem step_any (q : Nat) (to : Value) (xs : List Nat) (E g n base : Nat) (rows : List (List Nat)) (w : World) (hE : w.cell? ⟨E, 0, none⟩ = some (.slice (some ⟨g, 0, none⟩) n n)) (hR : Grid w g n rows) (hq : q < n) (hn : n ≤ 1000000)
    (hown : w.ownsRow base 3 1 to xs.length (iv xs)) (hb : base ≤ w.heap.size) (hlen : xs.length + (rowAt rows q).length ≤ 10000000000) :
    Calls Try.prog 14 #[.int .i64 (q : Int), to, .pointer (some ⟨E, 0, none⟩)] w fun e w' => ∃ v', e = .returned v' ∧ w'.ownsRow base 3 1 v' (xs ++ rowAt rows q).length (iv (xs ++ rowAt rows q)) ∧ Below base w w' := by
  obtain ⟨i0, hi, hz0, hz1, hz2⟩ := info_parts Try.info3
  obtain ⟨v, hc, ho⟩ := hR.at hq
  clear hR
  have HO := hide_of hown
  clear hown
  have HR := hide_of ho
  rcases ho.2 with ⟨rfl, h0⟩ | ⟨gr, cap, cur, rfl, h1, h2, h3, h4, h5, h6⟩
  · have hnil : rowAt rows q = [] := List.eq_nil_of_length_eq_zero h0
    have HN := hide_of hnil
    clear ho h0 hnil
    go_enter Try.func14, Try.ntmps14
    go_wp2_with (at_builtin; refine wpList_append_own_none rfl (.tmp 6) (.tmp 10) 25 rfl base 3 i0 1 Try.underlying25 hi to xs.length (iv xs) rfl HO.out rfl ?_)
    go_ret
    exact ⟨to, rfl, by rw [HN.out, List.append_nil]; exact HO.out, Below.refl _ _⟩
  · have hcl := HR.out.cells (g := gr) rfl
    have HC := hide_of hcl
    clear ho hcl h1 h2 h3 h4 h5 h6
    go_enter Try.func14, Try.ntmps14
    go_wp2_with (at_builtin; refine wpList_append_own _ rfl (.tmp 6) (.tmp 10) 25 rfl base 3 i0 (.int .i64 0) 1 8 Try.underlying25 hi hz0 hz1 hz2 rfl (by decide) to xs.length (iv xs) rfl HO.out ⟨gr, 0, none⟩ (rowAt rows q).length cap (iv (rowAt rows q)) rfl (by rw [iv_len]; omega) HC.out (iv_one _) (by unfold maxLen; omega) (by omega) hb ?_; intro v' w' hown' hgrow _)
    have R1 : w'.ownsRow base 3 1 v' (xs ++ rowAt rows q).length (iv (xs ++ rowAt rows q)) := by rw [List.length_append, iv_append]; exact hown'
    have R2 : Below base w w' := (Below.refl _ _).grown hgrow hb fun k hk => (HO.out.lt k hk).1
    have H1 := hide_of R1
    have H2 := hide_of R2
    clear R1 R2 hown' hgrow
    go_ret
    exact ⟨v', rfl, H1.out, H2.out⟩
end Go.Proofs.Qxb6628176a
