/-
  The walks of 'FnDigitBoundsBracketPowersOfTwo' (function 8), a case each.
-/
import Derived.Test.Qxb6619627aDig
namespace Go.Proofs.Qxb6619627a.Dig
open Go.RowKit

theorem ret_bool {a : Bool} (h : a = true) : Ending.returned (.bool a) = .returned (.bool true) := by rw [h]

set_option maxHeartbeats 400000 in
theorem bracket_a (n : Int) (h : n < 1) (w : World) :
    Calls Try.prog 8 #[.int .i64 n] w fun e w' => e = .returned (.bool true) ∧ Grown w w' := by
  go_enter Try.func8, Try.ntmps8
  go_wp2_with fail
  go_ret
  exact ⟨rfl, Grown.refl _⟩
set_option maxHeartbeats 400000 in
theorem bracket_b (n : Int) (h1 : 1 ≤ n) (h : 70000000 ≤ n) (w : World) :
    Calls Try.prog 8 #[.int .i64 n] w fun e w' => e = .returned (.bool true) ∧ Grown w w' := by
  go_enter Try.func8, Try.ntmps8
  go_wp2_with fail
  go_ret
  exact ⟨rfl, Grown.refl _⟩

set_option maxHeartbeats 1000000 in
theorem bracket_all (n : Int) (h1 : 1 ≤ n) (h2 : n < 70000000) (w : World) :
    Calls Try.prog 8 #[.int .i64 n] w fun e w' => e = .returned (.bool true) ∧ Grown w w' := by
  have ⟨l1, l2⟩ := least_bd n h1 h2
  have ⟨m1, m2⟩ := most_bd n h1 h2
  have ⟨f1, f2⟩ := flog_bd n (by omega) h2
  have ⟨f3, f4⟩ := flog_bd (n - 1) (by omega) (by omega)
  have ⟨g1, g2⟩ := least_flog n h1 h2
  have ⟨g3, g4⟩ := most_flog n h1 h2
  by_cases hx : n ≤ 69897000
  · have k := most_least n h1 hx
    go_enter Try.func8, Try.ntmps8
    go_wp2_with fail
    refine (bounds_any _ h1 h2 _).mono ?_
    rintro e w' ⟨rfl, rfl⟩
    go_wp2_with fail
    refine (flog_any _ (by omega) (by omega) _).mono ?_
    rintro e w' ⟨rfl, rfl⟩
    go_wp2_with fail
    refine (flog_any _ (by omega) (by omega) _).mono ?_
    rintro e w' ⟨rfl, rfl⟩
    go_wp2
    go_ret
    exact ⟨ret_bool (by simp; omega), Grown.refl _⟩
  · go_enter Try.func8, Try.ntmps8
    go_wp2_with fail
    refine (bounds_any _ h1 h2 _).mono ?_
    rintro e w' ⟨rfl, rfl⟩
    go_wp2_with fail
    refine (flog_any _ (by omega) (by omega) _).mono ?_
    rintro e w' ⟨rfl, rfl⟩
    go_wp2_with fail
    refine (flog_any _ (by omega) (by omega) _).mono ?_
    rintro e w' ⟨rfl, rfl⟩
    go_wp2
    go_ret
    exact ⟨ret_bool (by simp; omega), Grown.refl _⟩
end Go.Proofs.Qxb6619627a.Dig
