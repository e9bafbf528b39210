import Derived.Test.Qxb6628293aWalks
import Derived.RegionTactic
import Derived.Lib.SliceRun
namespace Go.Proofs.Qxb6628293a
open Go.RowKit

/-- What is read of a slice of bytes: its elements are the list l. -/
structure Row (w : World) (ao : Option Addr) (n cap : Nat) (l : List UInt8) : Prop where
  len : l.length = n
  fits : n ≤ cap
  max : cap ≤ maxLen
  nil : ao = none → cap = 0
  cells : 0 < n → ∃ b off, ao = some ⟨b, off, none⟩ ∧ b < w.heap.size ∧ ∀ j (h : j < l.length), w.cell? ⟨b, off + j, none⟩ = some (.int .u8 (l[j].toNat : Int))

theorem Row.below {w w' : World} {ao : Option Addr} {n cap : Nat} {l : List UInt8} (h : Row w ao n cap l) (hb : Below w.heap.size w w') : Row w' ao n cap l :=
  ⟨h.len, h.fits, h.max, h.nil, fun hn => by
    obtain ⟨b, off, rfl, hlt, hc⟩ := h.cells hn
    exact ⟨b, off, rfl, Nat.lt_of_lt_of_le hlt hb.size, fun j hj => (hb.cell (p := ⟨b, off + j, none⟩) hlt).trans (hc j hj)⟩⟩

theorem Row.below' {B : Nat} {w0 w w' : World} {ao : Option Addr} {n cap : Nat} {l : List UInt8} (h : Row w0 ao n cap l) (h0 : Below w0.heap.size w0 w) (hb : Below B w w') (hB : w0.heap.size ≤ B) : Row w' ao n cap l :=
  h.below (h0.trans (hb.mono hB))

set_option maxHeartbeats 1000000 in
theorem prefix_any (ao ao' : Option Addr) (n n' cap cap' : Nat) (l m : List UInt8) (w : World) (hr : Row w ao n cap l) (hr' : Row w ao' n' cap' m) (hp : l.take m.length = m) (hn : n ≤ 1000000000) :
    Calls Try.prog 8 #[.slice ao n cap, .slice ao' n' cap'] w fun e w' => e = .returned (.bool true) ∧ Below w.heap.size w w' := by
  have hml : m.length ≤ l.length := by
    have := congrArg List.length hp
    simp at this; omega
  have l1 := hr.len
  have l2 := hr'.len
  have hnn : n' ≤ n := by omega
  have HR : Hid (Row w ao n cap l) := hr
  have HR' : Hid (Row w ao' n' cap' m) := hr'
  have HP : Hid (l.take m.length = m) := hp
  have H1 : Hid (l.length = n ∧ m.length = n') := ⟨l1, l2⟩
  clear hr hr' hp l1 l2 hml
  go_enter Try.func8, Try.ntmps8
  go_wp2
  go_loopw [5] (fun t wr => ∃ k : Nat, k ≤ n' ∧ t = .int .i64 k ∧ Below w.heap.size w wr) (fun t _ => n' - (intOf t).toNat)
  case atStart => exact ⟨0, Nat.zero_le _, rfl, Below.refl _ _⟩
  case round =>
    obtain ⟨k, hk, rfl, hbel⟩ := hrel
    by_cases hlt : k < n'
    · obtain ⟨b, off, rfl, hb, hc⟩ := HR.out.cells (by omega)
      obtain ⟨b', off', rfl, hb', hc'⟩ := HR'.out.cells (by omega)
      have k1 : k < l.length := by have := H1.out.1; omega
      have k2 : k < m.length := by have := H1.out.2; omega
      have c1 : wr.cell? ⟨b, off + k, none⟩ = some (.int .u8 (l[k].toNat : Int)) := (hbel.cell (p := ⟨b, off + k, none⟩) hb).trans (hc k k1)
      have c2 : wr.cell? ⟨b', off' + k, none⟩ = some (.int .u8 (l[k].toNat : Int)) := by
        refine (hbel.cell (p := ⟨b', off' + k, none⟩) hb').trans ((hc' k k2).trans ?_)
        have e : m[k] = l[k] := by
          have h := HP.out
          have : (l.take m.length)[k]? = m[k]? := by rw [h]
          rw [List.getElem?_take, if_pos k2, List.getElem?_eq_getElem k1, List.getElem?_eq_getElem k2] at this
          exact (Option.some.inj this).symm
        rw [e]
      have HB : Hid (Below w.heap.size w wr) := hbel
      clear hc hc' hbel
      go_wp2
      go_region
      go_wp2
      go_roundw
      case rel => exact ⟨k + 1, by omega, by go_num, HB.out.drew⟩
      case measure => simp [intOf]; omega
    · go_wp2
      go_ret
      exact ⟨rfl, hbel⟩

set_option maxHeartbeats 1000000 in
theorem equal_any (ao ao' : Option Addr) (n cap cap' : Nat) (l : List UInt8) (w : World) (hr : Row w ao n cap l) (hr' : Row w ao' n cap' l) (hn : n ≤ 1000000000) :
    Calls Try.prog 9 #[.slice ao n cap, .slice ao' n cap'] w fun e w' => e = .returned (.bool true) ∧ Below w.heap.size w w' := by
  have HR : Hid (Row w ao n cap l) := hr
  have HR' : Hid (Row w ao' n cap' l) := hr'
  have H1 : Hid (l.length = n) := hr.len
  clear hr hr'
  go_enter Try.func9, Try.ntmps9
  go_wp2
  go_loopw [5] (fun t wr => ∃ k : Nat, k ≤ n ∧ t = .int .i64 k ∧ Below w.heap.size w wr) (fun t _ => n - (intOf t).toNat)
  case atStart => exact ⟨0, Nat.zero_le _, rfl, Below.refl _ _⟩
  case round =>
    obtain ⟨k, hk, rfl, hbel⟩ := hrel
    by_cases hlt : k < n
    · obtain ⟨b, off, rfl, hb, hc⟩ := HR.out.cells (by omega)
      obtain ⟨b', off', rfl, hb', hc'⟩ := HR'.out.cells (by omega)
      have k1 : k < l.length := by have := H1.out; omega
      have c1 : wr.cell? ⟨b, off + k, none⟩ = some (.int .u8 (l[k].toNat : Int)) := (hbel.cell (p := ⟨b, off + k, none⟩) hb).trans (hc k k1)
      have c2 : wr.cell? ⟨b', off' + k, none⟩ = some (.int .u8 (l[k].toNat : Int)) := (hbel.cell (p := ⟨b', off' + k, none⟩) hb').trans (hc' k k1)
      have HB : Hid (Below w.heap.size w wr) := hbel
      clear hc hc' hbel
      go_wp2
      go_region
      go_wp2
      go_roundw
      case rel => exact ⟨k + 1, by omega, by go_num, HB.out.drew⟩
      case measure => simp [intOf]; omega
    · go_wp2
      go_ret
      exact ⟨rfl, hbel⟩

theorem Try.info5 : (Try.prog.info? 5).map (fun i => (i.zero, i.size, i.bytes)) = some (some (.int .u8 0), 1, 1) := by kernel_rfl

/-- Bytes as cells. -/
def bc (l : List UInt8) : List Value := l.map fun b => Value.int .u8 b.toNat

theorem bc_len (l : List UInt8) : (bc l).length = l.length := by simp [bc]

theorem bc_get (l : List UInt8) (j : Nat) (h : j < l.length) : (bc l)[j]? = some (.int .u8 (l[j].toNat : Int)) := by
  simp [bc, h]

theorem bc_append (l m : List UInt8) : bc (l ++ m) = bc l ++ bc m := by simp [bc]

/-- What is owned is read. -/
theorem row_of_owns {w : World} {base : Nat} {v : Value} {l : List UInt8} (h : w.ownsRow base 5 1 v l.length (bc l)) : ∃ ao cap, v = .slice ao l.length cap ∧ Row w ao l.length cap l := by
  rcases h.2 with ⟨rfl, h0⟩ | ⟨g, cap, cur, rfl, hb, hg, hnc, hcm, hcs, htake⟩
  · exact ⟨none, 0, by rw [h0], rfl, by omega, by unfold maxLen; omega, fun _ => rfl, fun hp => by omega⟩
  · refine ⟨some ⟨g, 0, none⟩, cap, rfl, rfl, hnc, hcm, (fun e => by cases e), fun _ => ⟨g, 0, rfl, ?_, fun j hj => ?_⟩⟩
    · exact (Array.getElem?_eq_some_iff.1 hg).1
    · have := h.cellAt j (by omega)
      rw [Nat.zero_add, this, bc_get l j hj]

set_option maxHeartbeats 1000000 in
theorem clone_any (ao : Option Addr) (n cap : Nat) (l : List UInt8) (w : World) (hr : Row w ao n cap l) (hn : n ≤ 1000000000) :
    Calls Try.prog 6 #[.slice ao n cap] w fun e w' => ∃ ao', e = .returned (.slice ao' n n) ∧ Row w' ao' n n l ∧ Below w.heap.size w w' := by
  have HR : Hid (Row w ao n cap l) := hr
  have H1 : Hid (l.length = n) := hr.len
  have q22 : ∀ (w : World) (a : Option Addr) (n c n' c' : Nat), (binOp .eql 22 (.slice a n c) (.slice none n' c')).run Try.prog w = .ok (.bool a.isNone) w := fun w a n c n' c' => Lib.run_eql_slice_nil w _ _ a n c n' c' Try.underlying22
  cases ao with
  | none =>
    have hcap := hr.nil rfl
    have hn0 : n = 0 := by have := hr.fits; omega
    subst hcap hn0
    go_enter Try.func6, Try.ntmps6
    go_wp2
    go_ret
    exact ⟨none, rfl, hr, Below.refl _ _⟩
  | some x =>
    obtain ⟨i0, hi, hz0, hz1, hz2⟩ := info_parts Try.info5
    clear hr
    have hb1 : i0.bytes * n ≤ 281474976710656 := by rw [hz2]; omega
    have hmx : n ≤ maxLen := by unfold maxLen; omega
    go_enter Try.func6, Try.ntmps6
    go_wp2_with (at_make; refine wpList_make_full _ rfl _ _ 22 rfl w.heap.size 5 i0 (.int .u8 0) 1 Try.underlying22 hi hz0 hz1 .i64 .i64 _ _ n rfl rfl rfl rfl hb1 hmx (Nat.le_refl _) ?_; intro w1 hown hgrow)
    have hgf : ∀ k, (none : Option Nat) = some k → w.heap.size ≤ k := fun k h => by cases h
    have R0 : Below w.heap.size w w1 := (Below.refl _ _).grown hgrow (Nat.le_refl _) hgf
    clear q22 hgf hgrow
    go_loopw [4] (fun t wr => ∃ (k : Nat) (xs : List Value), k ≤ n ∧ t = .int .i64 k ∧ wr.ownsRow w.heap.size 5 1 (.slice (some ⟨w.heap.size, 0, none⟩) n n) n xs ∧ Hid (∀ j (h : j < l.length), j < k → xs[j]? = some (.int .u8 (l[j].toNat : Int))) ∧ Below w.heap.size w wr) (fun t _ => n - (intOf t).toNat)
    case atStart => exact ⟨0, _, Nat.zero_le _, rfl, hown, fun j _ h => absurd h (Nat.not_lt_zero j), R0⟩
    case round =>
      obtain ⟨k, xs, hk, rfl, hown, hx, hbel⟩ := hrel
      by_cases hlt : k < n
      · obtain ⟨b, off, e0, hb, hc⟩ := HR.out.cells (by omega)
        cases e0
        have k1 : k < l.length := by have := H1.out; omega
        have c1 : wr.cell? ⟨b, off + k, none⟩ = some (.int .u8 (l[k].toNat : Int)) := (hbel.cell (p := ⟨b, off + k, none⟩) hb).trans (hc k k1)
        have f2 := hown.frozenAt k
        have hxl : xs.length = n := by have := hown.1; omega
        obtain ⟨x2, c2⟩ : ∃ x2, wr.cell? ⟨w.heap.size, k, none⟩ = some x2 := ⟨xs[k]'(by omega), by rw [hown.cellAt k (by omega), List.getElem?_eq_getElem (by omega)]⟩
        have R := hown.stored k (.int .u8 (l[k].toNat : Int))
        have RB : Below w.heap.size w (wr.setCell ⟨w.heap.size, k, none⟩ (.int .u8 (l[k].toNat : Int))) := hbel.setCell (Nat.le_refl _) _
        have HX : Hid (∀ j (h : j < l.length), j < k + 1 → (xs.set k (.int .u8 (l[k].toNat : Int)))[j]? = some (.int .u8 (l[j].toNat : Int))) := fun j h hj => by
          rw [List.getElem?_set]
          by_cases e : k = j
          · subst e; simp [hxl, hlt]
          · rw [if_neg e]; exact hx.out j h (by omega)
        have HRR : Hid ((wr.setCell ⟨w.heap.size, k, none⟩ (.int .u8 (l[k].toNat : Int))).ownsRow w.heap.size 5 1 (.slice (some ⟨w.heap.size, 0, none⟩) n n) n (xs.set k (.int .u8 (l[k].toNat : Int)))) := R.1
        clear hc hbel hown R hx hxl
        go_wp2
        go_roundw
        case rel => exact ⟨k + 1, _, by omega, by go_num, HRR.out, HX, RB⟩
        case measure => simp [intOf]; omega
      · have hkn : k = n := by omega
        subst hkn
        have HRow : Hid (Row wr (some ⟨w.heap.size, 0, none⟩) k k l) := by
          refine ⟨H1.out, Nat.le_refl _, hmx, (fun e => by cases e), fun hp => ⟨w.heap.size, 0, rfl, ?_, fun j hj => ?_⟩⟩
          · exact (hown.lt w.heap.size rfl).2
          · have hl := H1.out
            rw [Nat.zero_add, hown.cellAt j (by omega)]
            exact hx.out j hj (by omega)
        clear hown hx
        go_wp2
        go_ret
        exact ⟨_, rfl, HRow.out, hbel⟩
end Go.Proofs.Qxb6628293a
