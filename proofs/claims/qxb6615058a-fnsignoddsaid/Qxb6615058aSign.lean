/-
  CONTRACTS OF ZZsign AND ZZabs (through sign, cmpInt and abs).
-/
import Derived.Test.Qxb6615058aRows
import Derived.WalkKit
import Derived.ProofKit
namespace Go.Proofs.Qxb6615058a
open Go.RowKit

/-- Twice the opposite is the number itself, at the least number too. -/
theorem opp_opp (a : Int) (h : -9223372036854775808 ≤ a ∧ a ≤ 9223372036854775807) : wrap64 (-wrap64 (-a)) = a := by
  unfold wrap64
  omega
theorem opp_pos (a : Int) (h : -9223372036854775808 < a ∧ a < 0) : 0 < wrap64 (-a) := by
  unfold wrap64
  omega

theorem sign_neg (a : Int) (h : a < 0) (w : World) : Calls Try.prog 5 #[.int .i64 a] w fun e w' => e = .returned (.int .i64 (-1)) ∧ w' = w := by
  go_enter Try.func5, Try.ntmps5
  go_wp2
  go_ret
  exact ⟨rfl, rfl⟩
theorem sign_zero (w : World) : Calls Try.prog 5 #[.int .i64 0] w fun e w' => e = .returned (.int .i64 0) ∧ w' = w := by
  go_enter Try.func5, Try.ntmps5
  go_wp2
  go_ret
  exact ⟨rfl, rfl⟩
theorem sign_pos (a : Int) (h : 0 < a) (w : World) : Calls Try.prog 5 #[.int .i64 a] w fun e w' => e = .returned (.int .i64 1) ∧ w' = w := by
  go_enter Try.func5, Try.ntmps5
  go_wp2
  go_ret
  exact ⟨rfl, rfl⟩
theorem abs_neg (a : Int) (h : a < 0) (w : World) : Calls Try.prog 6 #[.int .i64 a] w fun e w' => e = .returned (.int .i64 (wrap64 (-a))) ∧ w' = w := by
  go_enter Try.func6, Try.ntmps6
  go_wp2
  go_ret
  exact ⟨rfl, rfl⟩
theorem abs_pos (a : Int) (h : 0 ≤ a) (w : World) : Calls Try.prog 6 #[.int .i64 a] w fun e w' => e = .returned (.int .i64 a) ∧ w' = w := by
  go_enter Try.func6, Try.ntmps6
  go_wp2
  go_ret
  exact ⟨rfl, rfl⟩
end Go.Proofs.Qxb6615058a
