/-
  THE SMALL WALKS of seat b6602142a: the bounds on lengths, quoteSafeByte.
-/
import Derived.Test.Qxb6602142aRows
import Derived.Test.Qxb6602142aPlain
import Derived.WalkKit
namespace Go.Proofs.Qxb6602142a
open Go.RowKit

theorem zz12 (a b : ByteArray) (w : World) (wa : a.size ≤ maxLen) (wb : b.size ≤ maxLen) :
    Calls Try.prog 12 #[.string a, .string b] w fun e w' => (∃ r, e = .returned (.bool r)) ∧ w' = w := by
  unfold maxLen at wa wb
  go_enter Try.func12, Try.ntmps12
  go_wp2
  all_goals
    go_ret
    exact ⟨⟨_, rfl⟩, rfl⟩

theorem zz6 (a : ByteArray) (w : World) (wa : a.size ≤ maxLen) :
    Calls Try.prog 6 #[.string a] w fun e w' => (∃ r, e = .returned (.bool r)) ∧ w' = w := by
  unfold maxLen at wa
  go_enter Try.func6, Try.ntmps6
  go_wp2
  all_goals
    go_ret
    exact ⟨⟨_, rfl⟩, rfl⟩

theorem zz10 (a : ByteArray) (w : World) (wa : a.size ≤ maxLen) :
    Calls Try.prog 10 #[.string a] w fun e w' => (∃ r, e = .returned (.bool r)) ∧ w' = w := by
  unfold maxLen at wa
  go_enter Try.func10, Try.ntmps10
  go_wp2
  all_goals
    go_ret
    exact ⟨⟨_, rfl⟩, rfl⟩

theorem safe8 (c : UInt8) (w : World) :
    Calls Try.prog 8 #[.int .u8 c.toNat] w fun e w' => e = .returned (.bool (Plain.safeB c)) ∧ w' = w := by
  go_enter Try.func8, Try.ntmps8
  go_wp2
  all_goals
    go_ret
    refine ⟨?_, rfl⟩
    simp only [beq_iff_eq, beq_eq_false_iff_ne] at *
    first
      | (rw [Plain.safe_t c (by omega)]; rfl)
      | (rw [Plain.safe_f c (by omega)]; rfl)
end Go.Proofs.Qxb6602142a
