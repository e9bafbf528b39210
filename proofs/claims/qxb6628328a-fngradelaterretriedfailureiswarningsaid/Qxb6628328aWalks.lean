import Derived.Test.Qxb6628328aRows
import Derived.WalkKit
namespace Go.Proofs.Qxb6628328a
open Go.RowKit
set_option linter.unusedVariables false

theorem both {a : Bool} (h1 : a = true) (h2 : a = false) : False := by rw [h1] at h2; cases h2

theorem walk3 (a0 : ByteArray) (a1 : Int) (a2 : Int) (w0 : a0.size ≤ maxLen) (w : World) :
    Calls Try.prog 3 #[.string a0, .int .i64 a1, .int .i64 a2] w fun e w' => e = .returned (.bool true) ∧ Grown w w' := by
  unfold maxLen at w0
  go_enter Try.func3, Try.ntmps3
  go_wp2
  all_goals first
    | (go_ret; exact ⟨rfl, Grown.refl _⟩)
    | (exfalso; exact both (a := (a0.toList == [114, 97, 116, 101, 95, 108, 105, 109, 105, 116])) (by assumption) (by assumption))
    | (exfalso; exact both (a := (a0.toList == [110, 101, 116, 119, 111, 114, 107])) (by assumption) (by assumption))

theorem walk4 (a0 : ByteArray) (a1 : Int) (a2 : ByteArray) (a3 : Int) (w0 : a0.size ≤ maxLen) (w2 : a2.size ≤ maxLen) (w : World) :
    Calls Try.prog 4 #[.string a0, .int .i64 a1, .string a2, .int .i64 a3] w fun e w' => e = .returned (.bool true) ∧ Grown w w' := by
  unfold maxLen at w0 w2
  go_enter Try.func4, Try.ntmps4
  go_wp2
  all_goals first
    | (go_ret; exact ⟨rfl, Grown.refl _⟩)
    | (exfalso; exact both (a := (a0.toList == [114, 97, 116, 101, 95, 108, 105, 109, 105, 116])) (by assumption) (by assumption))
    | (exfalso; exact both (a := (a0.toList == [110, 101, 116, 119, 111, 114, 107])) (by assumption) (by assumption))
end Go.Proofs.Qxb6628328a
