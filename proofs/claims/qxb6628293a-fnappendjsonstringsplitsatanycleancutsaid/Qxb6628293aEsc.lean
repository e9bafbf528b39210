import Derived.Test.Qxb6628293aBytes
import Derived.Deep.RegionLaw
import Derived.Lib.AppendStr
import Derived.Laws.IdiomStrings
namespace Go
/-- append ONTO A ROW OF THE CALL's OWN, as one step of a region that draws. -/
theorem Proofs.Qxb6628293a.step_append_own {P : Program} {ops : Array Oper} {o : Oper} {a : Act} {w : World} {K : Act → World → Prop} {Q : Exit → Act → World → Prop} {E : Prop}
    (hg : o.guard = none) (s x : Operand) (t : TypeId) (hop : o.op = Op.call { callee := Callee.builtin Builtin.append, args := #[s, x], argTypes := #[t, t] })
    (base : Nat) (e : TypeId) (i : TypeInfo) (z : Value) (size bytes : Nat) (h1 : P.underlying t = some (.slice e)) (h2 : P.info? e = some i) (h3 : i.zero = some z) (h4 : i.size = size) (h5 : i.bytes = bytes) (h6 : z.cells.size = size) (h7 : 0 < size)
    (v : Value) (n : Nat) (xs : List Value) (hs : a.eval s = v) (hown : w.ownsRow base e size v n xs)
    (ad : Addr) (m c : Nat) (news : List Value) (hx : a.eval x = .slice (some ad) m c) (hn : news.length = m * size) (hc : ∀ j u, news[j]? = some u → w.cell? (ad.add j) = some u) (h1c : ∀ u ∈ news, u.oneCell' = true)
    (b1 : n + m ≤ maxLen) (b2 : (n + m) * bytes ≤ 140737488355328) (hbase : base ≤ w.heap.size)
    (hK : ∀ v' w', w'.ownsRow base e size v' (n + m) (xs ++ news) → w.grownBy w' v.ownBlock → K (a.put o.dst v') w') :
    if Region.wanted o (yielded ops a.tmps) = true then Oper.wp P o a w K Q else E := by
  have hw : Region.wanted o (yielded ops a.tmps) = true := by simp [Region.wanted, hg]
  rw [if_pos hw]
  obtain ⟨v', w', hrun, r1, r2, _⟩ := run_append_own (P := P) w base t o.type e i z size bytes h1 h2 h3 h4 h5 h6 h7 v n xs hown ad m c news hn hc h1c b1 b2 hbase
  unfold Oper.wp
  simp [execOp, hop, resolve, invoke, builtin, hs, hx, hrun, Result.andThen]
  exact hK v' w' r1 r2
end Go
namespace Go.Proofs.Qxb6628293a
open Go.RowKit

theorem bc_one (l : List UInt8) : ∀ u ∈ bc l, u.oneCell' = true := by
  intro u hu
  simp only [bc, List.mem_map] at hu
  obtain ⟨b, _, rfl⟩ := hu
  rfl

/-- The cells of a literal that has just been laid. -/
theorem lit_cell (w : World) (C : Array Value) (news : List Value) (hC : C.toList = news) : ∀ j u, news[j]? = some u → (w.alloc (.cells C 5)).cell? ((⟨w.heap.size, 0, none⟩ : Addr).add j) = some u := by
  intro j u hj
  have e := World.cell?_alloc_mark w C 5 (0, 0) j
  rw [Addr.add_lit, Nat.zero_add]
  refine e.trans ?_
  rw [← hC] at hj
  simpa using hj

/-- What an append onto a row of the call's own leaves. -/
theorem own_next {base m : Nat} {w W w' : World} {v v' : Value} {out add : List UInt8} (hown : w.ownsRow base 5 1 v out.length (bc out)) (hb : base ≤ w.heap.size) (hm : add.length = m)
    (h' : w'.ownsRow base 5 1 v' (out.length + m) (bc out ++ bc add)) (hg : W.grownBy w' v.ownBlock) (hW : Below base w W) : w'.ownsRow base 5 1 v' (out ++ add).length (bc (out ++ add)) ∧ Below base w w' := by
  refine ⟨by rw [List.length_append, hm, bc_append]; exact h', hW.grown hg (Nat.le_trans hb hW.size) fun k hk => (hown.lt k hk).1⟩

/-- The table of digits. -/
theorem hex_at (n : Nat) (h : n < 16) (h' : n < (ByteArray.mk #[48, 49, 50, 51, 52, 53, 54, 55, 56, 57, 97, 98, 99, 100, 101, 102]).size) :
    (ByteArray.mk #[48, 49, 50, 51, 52, 53, 54, 55, 56, 57, 97, 98, 99, 100, 101, 102])[n]'h' = hexD n := by
  have : ∀ m : Fin 16, (#[48, 49, 50, 51, 52, 53, 54, 55, 56, 57, 97, 98, 99, 100, 101, 102] : Array UInt8)[m.val]'m.2 = hexD m.val := by decide
  exact this ⟨n, h⟩

theorem and15 (n : Nat) (h : n < 256) : bits .and .u8 (n : Int) 15 = (n : Int) % 16 := by
  have : ∀ m : Fin 256, bits .and .u8 (m.val : Int) 15 = (m.val : Int) % 16 := by decide +kernel
  exact this ⟨n, h⟩

theorem escB_hex (c : UInt8) (hc : c.toNat < 32) (h1 : ¬ c.toNat = 8) (h2 : ¬ c.toNat = 12) (h3 : ¬ c.toNat = 10) (h4 : ¬ c.toNat = 13) (h5 : ¬ c.toNat = 9) : escB c = [92, 117, 48, 48, hexD (c.toNat / 16), hexD (c.toNat % 16)] := by
  unfold escB
  rw [if_neg (by omega), if_neg h1, if_neg h2, if_neg h3, if_neg h4, if_neg h5]

set_option maxHeartbeats 1000000 in
theorem esc_hex (v : Value) (c : UInt8) (out : List UInt8) (base : Nat) (w : World) (hc : c.toNat < 32) (h1 : ¬ c.toNat = 8) (h2 : ¬ c.toNat = 12) (h3 : ¬ c.toNat = 10) (h4 : ¬ c.toNat = 13) (h5 : ¬ c.toNat = 9)
    (hown : w.ownsRow base 5 1 v out.length (bc out)) (hb : base ≤ w.heap.size) (hn : out.length ≤ 1000000000) :
    Calls Try.prog 11 #[v, .int .u8 (c.toNat : Int)] w fun e w' => ∃ v', e = .returned v' ∧ w'.ownsRow base 5 1 v' (out ++ escB c).length (bc (out ++ escB c)) ∧ Below base w w' := by
  obtain ⟨i0, hi, hz0, hz1, hz2⟩ := info_parts Try.info5
  have q1 : (0 : Int) ≤ (c.toNat : Int) / 16 ∧ (c.toNat : Int) / 16 < 16 := by omega
  have q2 : (0 : Int) ≤ (c.toNat : Int) % 16 ∧ (c.toNat : Int) % 16 < 16 := by omega
  have X1 : ∀ h, (ByteArray.mk #[48, 49, 50, 51, 52, 53, 54, 55, 56, 57, 97, 98, 99, 100, 101, 102])[((c.toNat : Int) / 16).toNat]'h = hexD (c.toNat / 16) := fun h => by
    have e : ((c.toNat : Int) / 16).toNat = c.toNat / 16 := by omega
    have g := hex_at (c.toNat / 16) (by omega) (by rw [← e]; exact h)
    rw [← g]; congr 1
  have X2 : ∀ h, (ByteArray.mk #[48, 49, 50, 51, 52, 53, 54, 55, 56, 57, 97, 98, 99, 100, 101, 102])[((c.toNat : Int) % 16).toNat]'h = hexD (c.toNat % 16) := fun h => by
    have e : ((c.toNat : Int) % 16).toNat = c.toNat % 16 := by omega
    have g := hex_at (c.toNat % 16) (by omega) (by rw [← e]; exact h)
    rw [← g]; congr 1
  have hand := and15 c.toNat (by omega)
  have HE : Hid (escB c = [92, 117, 48, 48, hexD (c.toNat / 16), hexD (c.toNat % 16)]) := escB_hex c hc h1 h2 h3 h4 h5
  have HO : Hid (w.ownsRow base 5 1 v out.length (bc out)) := hown
  clear hown
  go_enter Try.func11, Try.ntmps11
  go_wp2
  go_region_law (refine step_append_own rfl (.tmp 33) (.tmp 40) 22 rfl base 5 i0 (.int .u8 0) 1 1 Try.underlying22 hi hz0 hz1 hz2 rfl (by decide) v out.length (bc out) (by simp [Act.eval]) (HO.out.drew.alloc _) ⟨w.heap.size, 0, none⟩ 6 6 (bc (escB c)) (by simp [Act.eval]) (by rw [HE.out]; rfl) (by rw [HE.out]; exact lit_cell _ _ _ rfl) (bc_one _) (by unfold maxLen; omega) (by omega) (by simp; omega) ?_; intro v' w' hown' hgrow)
  all_goals
    have R := own_next HO.out hb (by rw [HE.out]; rfl) hown' hgrow (((Below.refl _ _).drew).alloc hb _)
    clear hown' hgrow HO hand X1 X2
    go_wp2
    go_ret
    exact ⟨v', rfl, R.1, R.2⟩

set_option maxHeartbeats 1000000 in
theorem esc_two (v : Value) (c : UInt8) (out : List UInt8) (base : Nat) (w : World) (hc : c.toNat = 34 ∨ c.toNat = 92)
    (hown : w.ownsRow base 5 1 v out.length (bc out)) (hb : base ≤ w.heap.size) (hn : out.length ≤ 1000000000) :
    Calls Try.prog 11 #[v, .int .u8 (c.toNat : Int)] w fun e w' => ∃ v', e = .returned v' ∧ w'.ownsRow base 5 1 v' (out ++ escB c).length (bc (out ++ escB c)) ∧ Below base w w' := by
  obtain ⟨i0, hi, hz0, hz1, hz2⟩ := info_parts Try.info5
  have HE : Hid (escB c = [92, c]) := by show escB c = _; unfold escB; rw [if_pos hc]
  have HO : Hid (w.ownsRow base 5 1 v out.length (bc out)) := hown
  clear hown
  rcases hc with h | h
  all_goals
    have h' : (c.toNat : Int) = _ := congrArg Int.ofNat h
    have HC : Hid (c.toNat = _) := h
    clear h
    go_enter Try.func11, Try.ntmps11
    go_wp2_with (at_builtin; refine wpList_append_own _ rfl (.tmp 9) (.tmp 11) 22 rfl base 5 i0 (.int .u8 0) 1 1 Try.underlying22 hi hz0 hz1 hz2 rfl (by decide) v out.length (bc out) rfl (HO.out.alloc _) ⟨w.heap.size, 0, none⟩ 2 2 (bc (escB c)) rfl (by rw [HE.out]; rfl) (by rw [HE.out]; exact lit_cell _ _ _ (by simp [bc, HC.out])) (bc_one _) (by unfold maxLen; omega) (by omega) (by simp; omega) ?_; intro v' w' hown' hgrow _)
    have R := own_next HO.out hb (by rw [HE.out]; rfl) hown' hgrow ((Below.refl _ _).alloc hb _)
    clear hown' hgrow HO
    go_wp2
    go_ret
    exact ⟨v', rfl, R.1, R.2⟩

theorem esc_cases (c : UInt8) (hc : c.toNat = 8 ∨ c.toNat = 12 ∨ c.toNat = 10 ∨ c.toNat = 13 ∨ c.toNat = 9) : ((c.toNat : Int) = 8 ∧ escB c = [92, 98]) ∨ ((c.toNat : Int) = 12 ∧ escB c = [92, 102]) ∨ ((c.toNat : Int) = 10 ∧ escB c = [92, 110]) ∨
    ((c.toNat : Int) = 13 ∧ escB c = [92, 114]) ∨ ((c.toNat : Int) = 9 ∧ escB c = [92, 116]) := by
  rcases hc with h | h | h | h | h
  all_goals simp [escB, h]

set_option maxHeartbeats 1000000 in
theorem esc_str (v : Value) (c : UInt8) (out : List UInt8) (base : Nat) (w : World) (hc : c.toNat = 8 ∨ c.toNat = 12 ∨ c.toNat = 10 ∨ c.toNat = 13 ∨ c.toNat = 9)
    (hown : w.ownsRow base 5 1 v out.length (bc out)) (hb : base ≤ w.heap.size) (hn : out.length ≤ 1000000000) :
    Calls Try.prog 11 #[v, .int .u8 (c.toNat : Int)] w fun e w' => ∃ v', e = .returned v' ∧ w'.ownsRow base 5 1 v' (out ++ escB c).length (bc (out ++ escB c)) ∧ Below base w w' := by
  obtain ⟨i0, hi, hz0, hz1, hz2⟩ := info_parts Try.info5
  have HO : Hid (w.ownsRow base 5 1 v out.length (bc out)) := hown
  clear hown
  rcases esc_cases c hc with ⟨h', hE⟩ | ⟨h', hE⟩ | ⟨h', hE⟩ | ⟨h', hE⟩ | ⟨h', hE⟩
  all_goals
    have HE : Hid (escB c = _) := hE
    clear hE hc
    go_enter Try.func11, Try.ntmps11
    go_wp2_with (at_builtin; refine Lib.wpList_append_own_string _ rfl _ _ 22 9 rfl base 5 i0 Try.underlying22 Try.underlying9 hi hz0 hz1 hz2 v out.length (bc out) rfl HO.out _ rfl (by unfold maxLen; show out.length + 2 ≤ _; omega) (by show out.length + 2 ≤ _; omega) hb ?_; intro v' w' hown' hgrow _)
    have R := own_next (add := escB c) HO.out hb rfl (by rw [HE.out]; exact hown') hgrow (Below.refl _ _)
    clear hown' hgrow HO
    go_wp2
    go_ret
    exact ⟨v', rfl, R.1, R.2⟩

theorem esc_any (v : Value) (c : UInt8) (out : List UInt8) (base : Nat) (w : World) (hc : spec c = true)
    (hown : w.ownsRow base 5 1 v out.length (bc out)) (hb : base ≤ w.heap.size) (hn : out.length ≤ 1000000000) :
    Calls Try.prog 11 #[v, .int .u8 (c.toNat : Int)] w fun e w' => ∃ v', e = .returned v' ∧ w'.ownsRow base 5 1 v' (out ++ escB c).length (bc (out ++ escB c)) ∧ Below base w w' := by
  simp only [spec, decide_eq_true_eq] at hc
  by_cases h1 : c.toNat = 34 ∨ c.toNat = 92
  · exact esc_two v c out base w h1 hown hb hn
  · by_cases h2 : c.toNat = 8 ∨ c.toNat = 12 ∨ c.toNat = 10 ∨ c.toNat = 13 ∨ c.toNat = 9
    · exact esc_str v c out base w h2 hown hb hn
    · exact esc_hex v c out base w (by omega) (by omega) (by omega) (by omega) (by omega) (by omega) hown hb hn
end Go.Proofs.Qxb6628293a
