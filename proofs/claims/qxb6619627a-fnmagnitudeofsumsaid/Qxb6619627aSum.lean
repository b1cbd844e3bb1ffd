/-
  The walks of 'FnMagnitudeOfSum' (function 4), a case each.
-/
import Derived.Test.Qxb6619627aMag
import Derived.RowKit3
namespace Go.Proofs.Qxb6619627a
open Go.RowKit

set_option maxHeartbeats 400000 in
theorem sum_over_pos (a b : Int) (a0 : 0 ≤ a) (a1 : a ≤ 9223372036854775807) (b0 : 0 ≤ b) (b1 : b ≤ 9223372036854775807) (h : 9223372036854775807 < a + b) (w : World) :
    Calls Try.prog 4 #[.int .i64 a, .int .i64 b] w fun e w' => e = .returned (.bool true) ∧ Grown w w' := by
  have ta : decide (0 ≤ a) = true := by simp; omega
  have tb : decide (0 ≤ b) = true := by simp; omega
  have hs : wrap64 (a + b) < 0 := by unfold wrap64; omega
  have ts : decide (0 ≤ wrap64 (a + b)) = false := by simp; omega
  go_enter Try.func4, Try.ntmps4
  go_wp2_with fail
  go_ret
  exact ⟨rfl, Grown.refl _⟩

set_option maxHeartbeats 400000 in
theorem sum_over_neg (a b : Int) (a0 : a < 0) (a1 : -9223372036854775808 ≤ a) (b0 : b < 0) (b1 : -9223372036854775808 ≤ b) (h : a + b < -9223372036854775808) (w : World) :
    Calls Try.prog 4 #[.int .i64 a, .int .i64 b] w fun e w' => e = .returned (.bool true) ∧ Grown w w' := by
  have ta : decide (0 ≤ a) = false := by simp; omega
  have tb : decide (0 ≤ b) = false := by simp; omega
  have hs : 0 ≤ wrap64 (a + b) := by unfold wrap64; omega
  have ts : decide (0 ≤ wrap64 (a + b)) = true := by simp; omega
  go_enter Try.func4, Try.ntmps4
  go_wp2_with fail
  go_ret
  exact ⟨rfl, Grown.refl _⟩

set_option maxHeartbeats 400000 in
theorem sum_pos (a b : Int) (a0 : 0 ≤ a) (a1 : a ≤ 9223372036854775807) (b0 : 0 ≤ b) (b1 : b ≤ 9223372036854775807) (h : a + b ≤ 9223372036854775807) (w : World) :
    Calls Try.prog 4 #[.int .i64 a, .int .i64 b] w fun e w' => e = .returned (.bool true) ∧ Grown w w' := by
  have ta : decide (0 ≤ a) = true := by simp; omega
  have tb : decide (0 ≤ b) = true := by simp; omega
  have ts : decide (0 ≤ a + b) = true := by simp; omega
  go_enter Try.func4, Try.ntmps4
  go_wp2_with fail
  refine (mag_pos _ (by omega) (by omega) _).mono ?_
  rintro e w' ⟨rfl, rfl⟩
  go_wp2_with fail
  refine (mag_pos _ (by omega) (by omega) _).mono ?_
  rintro e w' ⟨rfl, rfl⟩
  go_wp2_with fail
  refine (mag_pos _ (by omega) (by omega) _).mono ?_
  rintro e w' ⟨rfl, rfl⟩
  go_wp2
  go_ret
  exact ⟨rfl, Grown.refl _⟩

set_option maxHeartbeats 400000 in
theorem sum_neg (a b : Int) (a0 : a < 0) (a1 : -9223372036854775808 ≤ a) (b0 : b < 0) (b1 : -9223372036854775808 ≤ b) (h : -9223372036854775808 ≤ a + b) (w : World) :
    Calls Try.prog 4 #[.int .i64 a, .int .i64 b] w fun e w' => e = .returned (.bool true) ∧ Grown w w' := by
  have ta : decide (0 ≤ a) = false := by simp; omega
  have tb : decide (0 ≤ b) = false := by simp; omega
  have ts : decide (0 ≤ a + b) = false := by simp; omega
  go_enter Try.func4, Try.ntmps4
  go_wp2_with fail
  refine (mag_neg _ (by omega) (by omega) _).mono ?_
  rintro e w' ⟨rfl, rfl⟩
  go_wp2_with fail
  refine (mag_neg _ (by omega) (by omega) _).mono ?_
  rintro e w' ⟨rfl, rfl⟩
  go_wp2_with fail
  refine (mag_neg _ (by omega) (by omega) _).mono ?_
  rintro e w' ⟨rfl, rfl⟩
  go_wp2
  go_ret
  exact ⟨ret_bool (by simp; omega), Grown.refl _⟩

set_option maxHeartbeats 400000 in
theorem sum_pn_p (a b : Int) (a0 : 0 < a) (a1 : a ≤ 9223372036854775807) (b0 : b < 0) (b1 : -9223372036854775808 ≤ b) (h : 0 ≤ a + b) (w : World) :
    Calls Try.prog 4 #[.int .i64 a, .int .i64 b] w fun e w' => e = .returned (.bool true) ∧ Grown w w' := by
  have ta : decide (0 ≤ a) = true := by simp; omega
  have tb : decide (0 ≤ b) = false := by simp; omega
  have ts : decide (0 ≤ a + b) = true := by simp; omega
  go_enter Try.func4, Try.ntmps4
  go_wp2_with fail
  refine (mag_pos _ (by omega) (by omega) _).mono ?_
  rintro e w' ⟨rfl, rfl⟩
  go_wp2_with fail
  refine (mag_neg _ (by omega) (by omega) _).mono ?_
  rintro e w' ⟨rfl, rfl⟩
  go_wp2_with fail
  refine (mag_pos _ (by omega) (by omega) _).mono ?_
  rintro e w' ⟨rfl, rfl⟩
  go_wp2
  go_ret
  exact ⟨rfl, Grown.refl _⟩

set_option maxHeartbeats 400000 in
theorem sum_pn_n (a b : Int) (a0 : 0 < a) (a1 : a ≤ 9223372036854775807) (b0 : b < 0) (b1 : -9223372036854775808 ≤ b) (h : a + b < 0) (w : World) :
    Calls Try.prog 4 #[.int .i64 a, .int .i64 b] w fun e w' => e = .returned (.bool true) ∧ Grown w w' := by
  have ta : decide (0 ≤ a) = true := by simp; omega
  have tb : decide (0 ≤ b) = false := by simp; omega
  have ts : decide (0 ≤ a + b) = false := by simp; omega
  go_enter Try.func4, Try.ntmps4
  go_wp2_with fail
  refine (mag_pos _ (by omega) (by omega) _).mono ?_
  rintro e w' ⟨rfl, rfl⟩
  go_wp2_with fail
  refine (mag_neg _ (by omega) (by omega) _).mono ?_
  rintro e w' ⟨rfl, rfl⟩
  go_wp2_with fail
  refine (mag_neg _ (by omega) (by omega) _).mono ?_
  rintro e w' ⟨rfl, rfl⟩
  go_wp2
  go_ret
  exact ⟨ret_bool (by simp; omega), Grown.refl _⟩

set_option maxHeartbeats 400000 in
theorem sum_np_p (a b : Int) (a0 : a < 0) (a1 : -9223372036854775808 ≤ a) (b0 : 0 < b) (b1 : b ≤ 9223372036854775807) (h : 0 ≤ a + b) (w : World) :
    Calls Try.prog 4 #[.int .i64 a, .int .i64 b] w fun e w' => e = .returned (.bool true) ∧ Grown w w' := by
  have ta : decide (0 ≤ a) = false := by simp; omega
  have tb : decide (0 ≤ b) = true := by simp; omega
  have ts : decide (0 ≤ a + b) = true := by simp; omega
  go_enter Try.func4, Try.ntmps4
  go_wp2_with fail
  refine (mag_neg _ (by omega) (by omega) _).mono ?_
  rintro e w' ⟨rfl, rfl⟩
  go_wp2_with fail
  refine (mag_pos _ (by omega) (by omega) _).mono ?_
  rintro e w' ⟨rfl, rfl⟩
  go_wp2_with fail
  refine (mag_pos _ (by omega) (by omega) _).mono ?_
  rintro e w' ⟨rfl, rfl⟩
  go_wp2
  all_goals
    go_ret
    exact ⟨ret_bool (by simp; omega), Grown.refl _⟩

set_option maxHeartbeats 400000 in
theorem sum_np_n (a b : Int) (a0 : a < 0) (a1 : -9223372036854775808 ≤ a) (b0 : 0 < b) (b1 : b ≤ 9223372036854775807) (h : a + b < 0) (w : World) :
    Calls Try.prog 4 #[.int .i64 a, .int .i64 b] w fun e w' => e = .returned (.bool true) ∧ Grown w w' := by
  have ta : decide (0 ≤ a) = false := by simp; omega
  have tb : decide (0 ≤ b) = true := by simp; omega
  have ts : decide (0 ≤ a + b) = false := by simp; omega
  go_enter Try.func4, Try.ntmps4
  go_wp2_with fail
  refine (mag_neg _ (by omega) (by omega) _).mono ?_
  rintro e w' ⟨rfl, rfl⟩
  go_wp2_with fail
  refine (mag_pos _ (by omega) (by omega) _).mono ?_
  rintro e w' ⟨rfl, rfl⟩
  go_wp2_with fail
  refine (mag_neg _ (by omega) (by omega) _).mono ?_
  rintro e w' ⟨rfl, rfl⟩
  go_wp2
  go_ret
  exact ⟨ret_bool (by simp; omega), Grown.refl _⟩

set_option maxHeartbeats 400000 in
theorem sum_zn (b : Int) (b0 : b < 0) (b1 : -9223372036854775808 ≤ b) (w : World) :
    Calls Try.prog 4 #[.int .i64 0, .int .i64 b] w fun e w' => e = .returned (.bool true) ∧ Grown w w' := by
  have tb : decide (0 ≤ b) = false := by simp; omega
  go_enter Try.func4, Try.ntmps4
  go_wp2_with fail
  refine (mag_pos 0 (by omega) (by omega) _).mono ?_
  rintro e w' ⟨rfl, rfl⟩
  go_wp2_with fail
  refine (mag_neg _ (by omega) (by omega) _).mono ?_
  rintro e w' ⟨rfl, rfl⟩
  go_wp2_with fail
  refine (mag_neg _ (by omega) (by omega) _).mono ?_
  rintro e w' ⟨rfl, rfl⟩
  go_wp2
  go_ret
  exact ⟨ret_bool (by simp), Grown.refl _⟩

set_option maxHeartbeats 400000 in
theorem sum_nz (a : Int) (a0 : a < 0) (a1 : -9223372036854775808 ≤ a) (w : World) :
    Calls Try.prog 4 #[.int .i64 a, .int .i64 0] w fun e w' => e = .returned (.bool true) ∧ Grown w w' := by
  have ta : decide (0 ≤ a) = false := by simp; omega
  go_enter Try.func4, Try.ntmps4
  go_wp2_with fail
  refine (mag_neg _ (by omega) (by omega) _).mono ?_
  rintro e w' ⟨rfl, rfl⟩
  go_wp2_with fail
  refine (mag_pos 0 (by omega) (by omega) _).mono ?_
  rintro e w' ⟨rfl, rfl⟩
  go_wp2_with fail
  refine (mag_neg _ (by omega) (by omega) _).mono ?_
  rintro e w' ⟨rfl, rfl⟩
  go_wp2
  go_ret
  exact ⟨ret_bool (by simp), Grown.refl _⟩

end Go.Proofs.Qxb6619627a
