import Derived.Test.Qxb6628176aRows
import Derived.Test.Qxb6628176aLaw
import Derived.WalkKit
import Derived.ProofKit
import Derived.OpenShut
import Derived.ShutString
import Derived.ChangeOld
import Derived.Below
import Derived.SliceStrings
import Derived.Deep.Matrix
namespace Go.Proofs.Qxb6628176a.fnBelowIsUnionOverDirectSubclasses
open Go.ChangeShapes Go.WideShapes Go.ChangeAt Go.RowKit
open Go.ChangeMaps (open_string shut_string)
set_option linter.unusedVariables false

theorem own : ownKnob Try.prog.godebug = none := by kernel_rfl
theorem laidOut : laidOutB Try.prog = true := by kernel_rfl

theorem addr_plain {w : World} {a : Addr} {v : Value} (h : w.cell? (a.add 0) = some v) : ∃ b off, a = ⟨b, off, none⟩ := by
  obtain ⟨b, off, spot⟩ := a
  have hspot : spot = none := by simpa [Addr.add] using World.cell?_spot h
  subst hspot
  exact ⟨b, off, rfl⟩

theorem sarg_some {w : World} {a : Addr} {len cap : Nat} {ss : List ByteArray} (hl : len ≤ cap) (hss : ss.length = cap) (hc : ∀ i, i < ss.length → w.cell? (a.add i) = some (.string (ss.getD i ByteArray.empty))) : SArg w (some a) len (ss.take len) := by
  refine ⟨by simp; omega, fun hp => ?_⟩
  obtain ⟨b, off, rfl⟩ := addr_plain (hc 0 (by omega))
  refine ⟨b, off, rfl, ?_, fun j s hj => ?_⟩
  · have := World.block_lt_of_cell? w _ (hc 0 (by omega))
    simpa [Addr.add] using this
  · rw [List.getElem?_take] at hj
    split at hj
    · obtain ⟨hjl, rfl⟩ := List.getElem?_eq_some_iff.1 hj
      have := hc j hjl
      rw [Addr.add_lit] at this
      rw [this]
      simp [List.getD, hjl]
    · cases hj

theorem sat_le {ss : List ByteArray} (h : ∀ s ∈ ss, s.size ≤ maxLen) (len j : Nat) : (sAt (ss.take len) j).size ≤ maxLen := by
  unfold sAt
  by_cases hj : j < (ss.take len).length
  · have e : (ss.take len).getD j ByteArray.empty = (ss.take len)[j] := by rw [List.getD, List.getElem?_eq_getElem hj]; rfl
    rw [e]
    exact h _ (List.mem_of_mem_take (List.getElem_mem hj))
  · have e : (ss.take len).getD j ByteArray.empty = ByteArray.empty := by rw [List.getD, List.getElem?_eq_none (by omega)]; rfl
    rw [e]
    exact Nat.zero_le _

theorem garg_some {w : World} {a : Addr} {len cap : Nat} {A : Nat → Option Addr} {L C : Nat → Nat} {Z : Nat → List Int} (hl : len ≤ cap)
    (hc : ∀ r, r < cap → w.cell? (a.add r) = some (.slice (A r) (L r) (C r)) ∧ L r ≤ C r ∧ C r ≤ maxLen ∧ (Z r).length = C r ∧ (∀ n ∈ Z r, (Lit.int .i64 n).wf = true) ∧ (A r = none → C r = 0) ∧
      ∀ a', A r = some a' → 0 ≤ a'.block ∧ ∀ c, c < C r → w.cell? (a'.add c) = some (.int .i64 ((Z r).getD c 0))) :
    GArg w (some a) len ((List.range len).map fun r => (Z r).take (L r)) := by
  refine ⟨by simp, fun hp => ?_⟩
  obtain ⟨b, off, rfl⟩ := addr_plain (hc 0 (by omega)).1
  refine ⟨b, off, rfl, ?_, fun j zs hj => ?_⟩
  · have := World.block_lt_of_cell? w _ (hc 0 (by omega)).1
    simpa [Addr.add] using this
  · have hjl : j < len := by
      have := (List.getElem?_eq_some_iff.1 hj).1
      simpa using this
    have e : zs = (Z j).take (L j) := by
      rw [List.getElem?_map, List.getElem?_range hjl] at hj
      simpa using hj.symm
    obtain ⟨h1, h2, h3, h4, h5, h6, h7⟩ := hc j (by omega)
    have hzl : zs.length = L j := by rw [e]; simp; omega
    refine ⟨A j, C j, by rw [hzl, ← Addr.add_lit]; exact h1, h6, rfl, fun hz => ?_⟩
    rw [hzl] at hz
    cases hA : A j with
    | none => have := h6 hA; omega
    | some a' =>
      have h8 := (h7 a' hA).2
      obtain ⟨b', off', rfl⟩ := addr_plain (h8 0 (by omega))
      refine ⟨b', off', rfl, ?_, fun k z hk => ?_⟩
      · have := World.block_lt_of_cell? w _ (h8 0 (by omega))
        simpa [Addr.add] using this
      · rw [e, List.getElem?_take] at hk
        split at hk
        · obtain ⟨hkl, rfl⟩ := List.getElem?_eq_some_iff.1 hk
          have := h8 k (by omega)
          rw [Addr.add_lit] at this
          rw [this]
          simp [List.getD, hkl]
        · cases hk

theorem zat_le {len : Nat} {L C : Nat → Nat} {Z : Nat → List Int} {cap : Nat} (hl : len ≤ cap) (h : ∀ r, r < cap → L r ≤ C r ∧ C r ≤ maxLen) (j : Nat) : (zAt ((List.range len).map fun r => (Z r).take (L r)) j).length ≤ maxLen := by
  unfold zAt
  by_cases hj : j < len
  · have e : ((List.range len).map fun r => (Z r).take (L r)).getD j [] = (Z j).take (L j) := by
      rw [List.getD, List.getElem?_map, List.getElem?_range hj]; rfl
    rw [e, List.length_take]
    have := h j (by omega)
    omega
  · have e : ((List.range len).map fun r => (Z r).take (L r)).getD j [] = [] := by
      rw [List.getD, List.getElem?_eq_none (by simp; omega)]; rfl
    rw [e]
    exact Nat.zero_le _

theorem sarg_nil (w : World) : SArg w none 0 [] := ⟨rfl, fun h => by omega⟩
theorem garg_nil (w : World) : GArg w none 0 [] := ⟨rfl, fun h => by omega⟩

set_option maxRecDepth 100000 in
theorem lifted (os : Os) (started : os.Started) (H : Type) (enc : TypeId × Value → H) :
    ReturnsInHanded {} Try.checked os 3 .any (Rows.fnBelowIsUnionOverDirectSubclassesSpec.pre6 enc Try.prog Try.f3 Rows.fnBelowIsUnionOverDirectSubclassesRow.domain false) (Rows.fnBelowIsUnionOverDirectSubclassesSpec.post enc Try.prog Try.f3 false true false false) := by
  refine returnsInHanded_of_change (C := Try.checked) own started (by kernel_rfl) Try.func3
    (ChangeSpec.witness6 (enc := enc) (C := Try.checked) false ⟨#[], #[.slice none 0 0, .slice none 0 0, .string ByteArray.empty], []⟩ 8 (by kernel_rfl) (by kernel_rfl) (by kernel_rfl) (by kernel_rfl)) ?_
  intro W base args ds gs before hval0 hW hcnd _
  have hval : ∀ (j : Nat) t v, Try.f3.params[j]? = some t → args[j]? = some v → Value.okWide Try.prog W .any base t v := hval0
  have hW' := hW
  obtain ⟨p, q, hA0, hV, rfl, hfz, hnd⟩ := hW
  have hA : DataW.TrodAll enc Try.prog W 0 (fun _ => true) true Try.f3.params.toList args.toList ds p := hA0
  rw [Try.params3] at hA hval
  obtain ⟨v0, vs0, d0, ds0, p0, q0, hargs, rfl, rfl, h0, r0⟩ := trodAll_cons hA
  obtain ⟨v1, vs1, d1, ds1, p1, q1, rfl, rfl, rfl, h1, r1⟩ := trodAll_cons r0
  obtain ⟨v2, vs2, d2, ds2, p2, q2, rfl, rfl, rfl, h2, r2⟩ := trodAll_cons r1
  obtain ⟨rfl, rfl, rfl⟩ := trodAll_nil r2
  obtain rfl : args = #[v0, v1, v2] := by cases args; simp_all
  obtain ⟨rfl, rfl⟩ := trodVars_none hV
  obtain ⟨a0, len0, cap0, rfl⟩ := okWide_slice Try.underlying22 (hval 0 22 v0 rfl rfl)
  obtain ⟨a1, len1, cap1, rfl⟩ := okWide_slice Try.underlying23 (hval 1 23 v1 rfl rfl)
  have k0 := h0
  have k1 := h1
  have lt0 : ∀ x ∈ p0, x.block < W.heap.size := by obtain ⟨m, hm⟩ := k0; exact DataW.trod_lt m _ _ _ hm
  have lt1 : ∀ x ∈ p1, x.block < W.heap.size := by obtain ⟨m, hm⟩ := k1; exact DataW.trod_lt m _ _ _ hm
  obtain ⟨ss, w0, n0, s0⟩ : ∃ ss, SArg W a0 len0 ss ∧ len0 ≤ maxLen ∧ ∀ j, (sAt ss j).size ≤ maxLen := by
    obtain ⟨fuel, hf⟩ := h0
    rcases open_strings Try.underlying22 Try.underlying9 (by kernel_rfl) hf with ⟨hcs, _⟩ | ⟨x, l, c, ss, hcs, _, hl, hm, hz, _, hcell, hws⟩
    · simp [Value.cells] at hcs
      obtain ⟨rfl, rfl, rfl⟩ := hcs
      exact ⟨[], sarg_nil W, Nat.zero_le _, fun j => sat_le (ss := []) (fun s hs => by cases hs) 0 j⟩
    · simp [Value.cells] at hcs
      obtain ⟨rfl, rfl, rfl⟩ := hcs
      exact ⟨ss.take len0, sarg_some hl (by simpa using hz) hcell, Nat.le_trans hl hm, fun j => sat_le hws len0 j⟩
  obtain ⟨zz, w1, n1, s1⟩ : ∃ zz, GArg W a1 len1 zz ∧ len1 ≤ maxLen ∧ ∀ j, (zAt zz j).length ≤ maxLen := by
    obtain ⟨fuel, hf⟩ := h1
    rcases Deep.open_int_rows Try.underlying23 Try.underlying25 Try.underlying3 (by kernel_rfl) (by kernel_rfl) hf with ⟨hcs, _⟩ | ⟨x, l, c, A, L, C, Z, hcs, _, hl, hm, _, hc⟩
    · simp [Value.cells] at hcs
      obtain ⟨rfl, rfl, rfl⟩ := hcs
      exact ⟨[], garg_nil W, Nat.zero_le _, fun j => by unfold zAt; simp⟩
    · simp [Value.cells] at hcs
      obtain ⟨rfl, rfl, rfl⟩ := hcs
      exact ⟨_, garg_some hl hc, Nat.le_trans hl hm, fun j => zat_le hl (fun r hr => ⟨(hc r hr).2.1, (hc r hr).2.2.1⟩) j⟩
  obtain ⟨a2, rfl, rfl, rfl, w2⟩ := open_string Try.underlying9 (hval 2 9 v2 rfl rfl) h2
  clear hA0 hval0
  refine (law_any a0 a1 len0 len1 cap0 cap1 ss zz a2 W w0 w1 n0 n1 w2 s0 s1).mono fun e W' ⟨he, bel⟩ => ?_
  subst he
  exact ⟨_, rfl, _, _, _, [], _, [], hW', trodAll_mk1 (shut_bool Try.underlying4 _), (trodAll_cons_mk (Below.trod laidOut (by kernel_rfl) (of_decide_eq_true (by kernel_rfl)) k0 bel lt0) (trodAll_cons_mk (Below.trod laidOut (by kernel_rfl) (of_decide_eq_true (by kernel_rfl)) k1 bel lt1) (trodAll_cons_mk (shut_string Try.underlying9 w2) trodAll_mk0))), rfl, bel.frame _, fun h => by cases h⟩

theorem over : Rows.fnBelowIsUnionOverDirectSubclassesRow.holds Try.pinned (OpenSpec.ofChange Rows.fnBelowIsUnionOverDirectSubclassesSpec) :=
  OpenClaim.holds_of_wide 3 Try.f3 rfl rfl rfl rfl rfl rfl rfl ⟨rfl, rfl, rfl, rfl, rfl⟩ rfl rfl rfl rfl rfl (by kernel_rfl) Try.func3 (by kernel_rfl)
    (of_decide_eq_true (by kernel_rfl)) (by unfold Func.isWrapper; first | (rw [if_pos (by decide +kernel)]; kernel_rfl) | (rw [if_neg (by decide +kernel)]; exact ⟨rfl, rfl⟩))
    (fun os started H enc _ => lifted os started H enc)

theorem proved : Rows.FnBelowIsUnionOverDirectSubclassesSaid := over
end Go.Proofs.Qxb6628176a.fnBelowIsUnionOverDirectSubclasses
