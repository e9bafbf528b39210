import Derived.Test.Qxb6628176aMem
namespace Go.Proofs.Qxb6628176a
open Go.RowKit Go.Maps
set_option linter.unusedVariables false

/-- What is read of a []string that came in. -/
structure SArg (w : World) (ao : Option Addr) (n : Nat) (ss : List ByteArray) : Prop where
  len : ss.length = n
  cells : 0 < n → ∃ b off, ao = some ⟨b, off, none⟩ ∧ b < w.heap.size ∧ ∀ j s, ss[j]? = some s → w.cell? ⟨b, off + j, none⟩ = some (.string s)

/-- .. of a []int. -/
structure IArg (w : World) (ao : Option Addr) (n : Nat) (zs : List Int) : Prop where
  len : zs.length = n
  cells : 0 < n → ∃ b off, ao = some ⟨b, off, none⟩ ∧ b < w.heap.size ∧ ∀ j z, zs[j]? = some z → w.cell? ⟨b, off + j, none⟩ = some (.int .i64 z)

/-- .. of a [][]int. -/
structure GArg (w : World) (ao : Option Addr) (n : Nat) (zz : List (List Int)) : Prop where
  len : zz.length = n
  cells : 0 < n → ∃ b off, ao = some ⟨b, off, none⟩ ∧ b < w.heap.size ∧ ∀ j zs, zz[j]? = some zs → ∃ A C, w.cell? ⟨b, off + j, none⟩ = some (.slice A zs.length C) ∧ (A = none → C = 0) ∧ IArg w A zs.length zs

theorem SArg.stays {w w' : World} {ao : Option Addr} {n : Nat} {ss : List ByteArray} (h : SArg w ao n ss) (hb : Below w.heap.size w w') : SArg w' ao n ss :=
  ⟨h.len, fun hn => by
    obtain ⟨b, off, e, hl, hc⟩ := h.cells hn
    exact ⟨b, off, e, Nat.lt_of_lt_of_le hl hb.size, fun j s hj => (hb.cell (p := ⟨b, off + j, none⟩) hl).trans (hc j s hj)⟩⟩

theorem IArg.stays {w w' : World} {ao : Option Addr} {n : Nat} {zs : List Int} (h : IArg w ao n zs) (hb : Below w.heap.size w w') : IArg w' ao n zs :=
  ⟨h.len, fun hn => by
    obtain ⟨b, off, e, hl, hc⟩ := h.cells hn
    exact ⟨b, off, e, Nat.lt_of_lt_of_le hl hb.size, fun j s hj => (hb.cell (p := ⟨b, off + j, none⟩) hl).trans (hc j s hj)⟩⟩

theorem GArg.stays {w w' : World} {ao : Option Addr} {n : Nat} {zz : List (List Int)} (h : GArg w ao n zz) (hb : Below w.heap.size w w') : GArg w' ao n zz :=
  ⟨h.len, fun hn => by
    obtain ⟨b, off, e, hl, hc⟩ := h.cells hn
    refine ⟨b, off, e, Nat.lt_of_lt_of_le hl hb.size, fun j zs hj => ?_⟩
    obtain ⟨A, C, h1, h2, h3⟩ := hc j zs hj
    exact ⟨A, C, (hb.cell (p := ⟨b, off + j, none⟩) hl).trans h1, h2, h3.stays hb⟩⟩

/-- The string at place j. -/
def sAt (ss : List ByteArray) (j : Nat) : ByteArray := ss.getD j ByteArray.empty
theorem sAt_some {ss : List ByteArray} {j : Nat} (h : j < ss.length) : ss[j]? = some (sAt ss j) := by simp [sAt, List.getD, h]
/-- The row at place j. -/
def zAt (zz : List (List Int)) (j : Nat) : List Int := zz.getD j []
theorem zAt_some {zz : List (List Int)} {j : Nat} (h : j < zz.length) : zz[j]? = some (zAt zz j) := by simp [zAt, List.getD, h]

theorem all_next {f : Nat → Nat} {k B : Nat} (h : ∀ j, j < k → f j ≤ B) (hk : f k ≤ B) : ∀ j, j < k + 1 → f j ≤ B := fun j hj => by
  by_cases e : j = k
  · subst e; exact hk
  · exact h j (by omega)

set_option maxRecDepth 100000 in
set_option maxHeartbeats 2000000 in
theorem bytes_any (a0 a1 : Option Addr) (n m c0 c1 : Nat) (ss : List ByteArray) (zz : List (List Int)) (name : ByteArray) (w : World) (hS : SArg w a0 n ss) (hG : GArg w a1 m zz) (hn : n ≤ maxLen) (hm : m ≤ maxLen) (hs : name.size ≤ maxLen)
    (hsl : ∀ j, (sAt ss j).size ≤ maxLen) (hzl : ∀ j, (zAt zz j).length ≤ maxLen) :
    Calls Try.prog 5 #[.slice a0 n c0, .slice a1 m c1, .string name] w fun e w' => (e = .returned (.bool true) ∧ Hid ((∀ j, j < n → (sAt ss j).size ≤ 1048576) ∧ (∀ j, j < m → (zAt zz j).length ≤ 1048576)) ∧ w' = w) ∨ (e = .returned (.bool false) ∧ w' = w) := by
  have HS := hide_of hS
  have HG := hide_of hG
  have HSL := hide_of hsl
  have HZL := hide_of hzl
  clear hS hG hsl hzl
  unfold maxLen at hn hm hs
  go_enter Try.func5, Try.ntmps5
  go_wp2
  · go_ret
    exact .inr ⟨rfl, rfl⟩
  · go_loop [7, 8] (fun t i => ∃ z k : Nat, z ≤ 1048576 ∧ k ≤ n ∧ t = .int .i64 z ∧ i = .int .i64 k ∧ Hid (∀ j, j < k → (sAt ss j).size ≤ 1048576)) (fun _ i => n - (intOf i).toNat)
    case atStart => exact ⟨n, 0, by omega, by omega, rfl, rfl, fun j h => absurd h (Nat.not_lt_zero j)⟩
    case round =>
      obtain ⟨z, k, hz, hk, rfl, rfl, HA⟩ := hrel
      by_cases hlt : k < n
      · obtain ⟨b, off, rfl, hb, hc⟩ := HS.out.cells (by omega)
        have cc := hc k _ (sAt_some (by have := HS.out.len; omega))
        have hbd := HSL.out k
        unfold maxLen at hbd
        obtain ⟨s, hs2⟩ : ∃ s, s = sAt ss k := ⟨_, rfl⟩
        rw [← hs2] at cc hbd
        have HS2 := hide_of hs2
        clear hs2
        clear hc
        go_wp2
        all_goals first
          | (go_ret; exact .inr ⟨rfl, rfl⟩)
          | (go_round
             case rel => exact ⟨z + s.size, k + 1, by omega, by omega, by go_num, by go_num, all_next HA.out (by rw [← HS2.out]; omega)⟩
             case measure => simp [intOf]; omega)
      · go_wp2
        · go_ret
          exact .inr ⟨rfl, rfl⟩
        · go_ret
          exact .inr ⟨rfl, rfl⟩
        · go_loop [7, 9] (fun t i => ∃ z k : Nat, z ≤ 1048576 ∧ k ≤ m ∧ t = .int .i64 z ∧ i = .int .i64 k ∧ Hid (∀ j, j < k → (zAt zz j).length ≤ 1048576)) (fun _ i => m - (intOf i).toNat)
          case atStart => exact ⟨z + m, 0, by omega, by omega, by go_num, rfl, fun j h => absurd h (Nat.not_lt_zero j)⟩
          case round =>
            obtain ⟨z2, k2, hz2, hk2, rfl, rfl, HA2⟩ := hrel
            by_cases hlt2 : k2 < m
            · obtain ⟨b, off, rfl, hb, hc⟩ := HG.out.cells (by omega)
              obtain ⟨A, C, cc, _, _⟩ := hc k2 _ (zAt_some (by have := HG.out.len; omega))
              have hbd := HZL.out k2
              unfold maxLen at hbd
              obtain ⟨s, hs2⟩ : ∃ s, s = (zAt zz k2).length := ⟨_, rfl⟩
              rw [← hs2] at cc hbd
              have HS2 := hide_of hs2
              clear hs2
              clear hc
              go_wp2
              all_goals first
                | (go_ret; exact .inr ⟨rfl, rfl⟩)
                | (go_round
                   case rel => exact ⟨z2 + s, k2 + 1, by omega, by omega, by go_num, by go_num, all_next HA2.out (by rw [← HS2.out]; omega)⟩
                   case measure => simp [intOf]; omega)
            · go_wp2
              all_goals first
                | (go_ret; exact .inr ⟨rfl, rfl⟩)
                | (go_ret; exact .inl ⟨rfl, ⟨fun j hj => HA.out j (by omega), fun j hj => HA2.out j (by omega)⟩, rfl⟩)
end Go.Proofs.Qxb6628176a
