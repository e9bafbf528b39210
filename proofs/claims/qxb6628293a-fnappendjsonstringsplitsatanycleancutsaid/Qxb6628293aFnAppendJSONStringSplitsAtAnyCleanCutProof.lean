import Derived.Test.Qxb6628293aRows
import Derived.Test.Qxb6628293aLaw
import Derived.WalkKit
import Derived.ProofKit
import Derived.OpenShut
import Derived.ShutString
import Derived.ChangeOld
import Derived.Below
namespace Go.Proofs.Qxb6628293a.fnAppendJSONStringSplitsAtAnyCleanCut
open Go.ChangeShapes Go.WideShapes Go.ChangeAt Go.RowKit
open Go.ChangeMaps (open_string shut_string)
set_option linter.unusedVariables false

theorem own : ownKnob Try.prog.godebug = none := by kernel_rfl
theorem laidOut : laidOutB Try.prog = true := by kernel_rfl

def IsRow (k : IntKind) (w : World) (a : Option Addr) (len cap : Nat) (zs : List Int) : Prop :=
  (a = none ∧ len = 0 ∧ cap = 0 ∧ zs = []) ∨
  ∃ x, a = some x ∧ len ≤ cap ∧ cap ≤ maxLen ∧ zs.length = cap ∧ (∀ i, i < zs.length → w.cell? (x.add i) = some (.int k (zs.getD i 0))) ∧ ∀ n ∈ zs, (Lit.int k n).wf = true

theorem row_of_isRow {w : World} {a : Option Addr} {len cap : Nat} {zs : List Int} (h : IsRow .u8 w a len cap zs) : ∃ l, Row w a len cap l := by
  rcases h with ⟨rfl, rfl, rfl, rfl⟩ | ⟨x, rfl, hl, hm, hz, hc, hw⟩
  · exact ⟨[], rfl, Nat.le_refl _, by unfold maxLen; omega, fun _ => rfl, fun h => by omega⟩
  · have hlen : ((zs.take len).map fun z => UInt8.ofNat z.toNat).length = len := by simp; omega
    refine ⟨(zs.take len).map fun z => UInt8.ofNat z.toNat, hlen, hl, hm, (fun e => by cases e), fun hp => ?_⟩
    obtain ⟨b, off, rfl, hcell⟩ := ints_at hc (by omega)
    refine ⟨b, off, rfl, ?_, fun j hj => ?_⟩
    · have := World.block_lt_of_cell? w _ (hcell 0 (by omega))
      exact this
    · have hjl : j < len := by omega
      have hjz : j < zs.length := by omega
      rw [hcell j hjz]
      have hb := bounds_u8 (hw zs[j] (List.getElem_mem hjz))
      have e1 : zs.getD j 0 = zs[j] := by simp [List.getD, hjz]
      have e2 : ((zs.take len).map fun z => UInt8.ofNat z.toNat)[j] = UInt8.ofNat zs[j].toNat := by simp
      rw [e1, e2]
      have e3 : (UInt8.ofNat zs[j].toNat).toNat = zs[j].toNat := by simp [UInt8.toNat_ofNat']; omega
      rw [e3]
      congr 2
      omega

set_option maxRecDepth 100000 in
set_option maxHeartbeats 1000000 in
theorem law_big (a0 : Option Addr) (len0 cap0 : Nat) (a b : ByteArray) (w : World) (h0 : len0 ≤ maxLen) (h1 : a.size ≤ maxLen) (h2 : b.size ≤ maxLen) (hsum : 1048576 < len0 + a.size + b.size) :
    Calls Try.prog 3 #[.slice a0 len0 cap0, .string a, .string b] w fun e w' => e = .returned (.bool true) ∧ Below w.heap.size w w' := by
  unfold maxLen at h0 h1 h2
  go_enter Try.func3, Try.ntmps3
  go_wp2
  all_goals (go_ret; exact ⟨rfl, Below.refl _ _⟩)

theorem walk (a0 : Option Addr) (len0 cap0 : Nat) (z0 : List Int) (a1 : ByteArray) (a2 : ByteArray) (w : World) (w0 : IsRow .u8 w a0 len0 cap0 z0) (w1 : a1.size ≤ maxLen) (w2 : a2.size ≤ maxLen) :
    Calls Try.prog 3 #[.slice a0 len0 cap0, .string a1, .string a2] w fun e w' => e = .returned (.bool true) ∧ Below w.heap.size w w' := by
  obtain ⟨l, hr⟩ := row_of_isRow w0
  by_cases hsum : len0 + a1.size + a2.size ≤ 1048576
  · exact law_good a0 len0 cap0 l a1 a2 w hr hsum
  · exact law_big a0 len0 cap0 a1 a2 w (Nat.le_trans hr.fits hr.max) w1 w2 (by omega)

set_option maxRecDepth 100000 in
theorem lifted (os : Os) (started : os.Started) (H : Type) (enc : TypeId × Value → H) :
    ReturnsInHanded {} Try.checked os 3 .any (Rows.fnAppendJSONStringSplitsAtAnyCleanCutSpec.pre6 enc Try.prog Try.f3 Rows.fnAppendJSONStringSplitsAtAnyCleanCutRow.domain false) (Rows.fnAppendJSONStringSplitsAtAnyCleanCutSpec.post enc Try.prog Try.f3 false true false false) := by
  refine returnsInHanded_of_change (C := Try.checked) own started (by kernel_rfl) Try.func3
    (ChangeSpec.witness6 (enc := enc) (C := Try.checked) false ⟨#[], #[.slice none 0 0, .string ByteArray.empty, .string ByteArray.empty], []⟩ 8 (by kernel_rfl) (by kernel_rfl) (by kernel_rfl) (by kernel_rfl)) ?_
  intro W base args ds gs before hval0 hW hcnd _
  have hval : ∀ (j : Nat) t v, Try.f3.params[j]? = some t → args[j]? = some v → Value.okWide Try.prog W .any base t v := hval0
  have hW' := hW
  obtain ⟨p, q, hA0, hV, rfl, hfz, hnd⟩ := hW
  have hA : DataW.TrodAll enc Try.prog W 0 (fun _ => true) true Try.f3.params.toList args.toList ds p := hA0
  rw [Try.params3] at hA hval
  obtain ⟨v0, vs0, d0, ds0, p0, q0, hargs, rfl, rfl, h0, r0⟩ := trodAll_cons hA
  obtain ⟨v1, vs1, d1, ds1, p1, q1, rfl, rfl, rfl, h1, r1⟩ := trodAll_cons r0
  obtain ⟨v2, vs2, d2, ds2, p2, q2, rfl, rfl, rfl, h2, r2⟩ := trodAll_cons r1
  obtain ⟨rfl, rfl, rfl⟩ := trodAll_nil r2
  obtain rfl : args = #[v0, v1, v2] := by cases args; simp_all
  obtain ⟨rfl, rfl⟩ := trodVars_none hV
  obtain ⟨a0, len0, cap0, rfl⟩ := okWide_slice Try.underlying22 (hval 0 22 v0 rfl rfl)
  have k0 := h0
  have lt0 : ∀ x ∈ p0, x.block < W.heap.size := by obtain ⟨m, hm⟩ := k0; exact DataW.trod_lt m _ _ _ hm
  obtain ⟨z0, w0⟩ : ∃ zs, IsRow .u8 W a0 len0 cap0 zs := by
    obtain ⟨fuel, hf⟩ := h0
    rcases open_ints Try.underlying22 Try.underlying5 (by kernel_rfl) hf with ⟨hcs, _⟩ | ⟨x, l, c, zs, hcs, _, hl, hm, hz, _, hcell, hwz⟩
    · simp [Value.cells] at hcs
      obtain ⟨rfl, rfl, rfl⟩ := hcs
      exact ⟨[], .inl ⟨rfl, rfl, rfl, rfl⟩⟩
    · simp [Value.cells] at hcs
      obtain ⟨rfl, rfl, rfl⟩ := hcs
      exact ⟨zs, .inr ⟨_, rfl, hl, hm, by simpa using hz, hcell, hwz⟩⟩
  obtain ⟨a1, rfl, rfl, rfl, w1⟩ := open_string Try.underlying9 (hval 1 9 v1 rfl rfl) h1
  obtain ⟨a2, rfl, rfl, rfl, w2⟩ := open_string Try.underlying9 (hval 2 9 v2 rfl rfl) h2
  clear hA0 hval0
  refine (walk a0 len0 cap0 z0 a1 a2 W w0 w1 w2).mono fun e W' ⟨he, bel⟩ => ?_
  subst he
  exact ⟨_, rfl, _, _, _, [], _, [], hW', trodAll_mk1 (shut_bool Try.underlying4 _), (trodAll_cons_mk (Below.trod laidOut (by kernel_rfl) (of_decide_eq_true (by kernel_rfl)) k0 bel lt0) (trodAll_cons_mk (shut_string Try.underlying9 w1) (trodAll_cons_mk (shut_string Try.underlying9 w2) trodAll_mk0))), rfl, bel.frame _, fun h => by cases h⟩

theorem over : Rows.fnAppendJSONStringSplitsAtAnyCleanCutRow.holds Try.pinned (OpenSpec.ofChange Rows.fnAppendJSONStringSplitsAtAnyCleanCutSpec) :=
  OpenClaim.holds_of_wide 3 Try.f3 rfl rfl rfl rfl rfl rfl rfl ⟨rfl, rfl, rfl, rfl, rfl⟩ rfl rfl rfl rfl rfl (by kernel_rfl) Try.func3 (by kernel_rfl)
    (of_decide_eq_true (by kernel_rfl)) (by unfold Func.isWrapper; first | (rw [if_pos (by decide +kernel)]; kernel_rfl) | (rw [if_neg (by decide +kernel)]; exact ⟨rfl, rfl⟩))
    (fun os started H enc _ => lifted os started H enc)

theorem proved : Rows.FnAppendJSONStringSplitsAtAnyCleanCutSaid := over
end Go.Proofs.Qxb6628293a.fnAppendJSONStringSplitsAtAnyCleanCut
