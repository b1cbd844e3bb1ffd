/-
  The walks of 'FnDigitBoundsStepsAndSums' (function 5), a case each.
-/
import Derived.Test.Qxb6619627aDig
namespace Go.Proofs.Qxb6619627a.Dig
open Go.RowKit

set_option maxHeartbeats 400000 in
theorem steps_a (a b : Int) (h : a < 1) (w : World) :
    Calls Try.prog 5 #[.int .i64 a, .int .i64 b] w fun e w' => e = .returned (.bool true) ∧ Grown w w' := by
  go_enter Try.func5, Try.ntmps5
  go_wp2_with fail
  go_ret
  exact ⟨rfl, Grown.refl _⟩
set_option maxHeartbeats 400000 in
theorem steps_b (a b : Int) (h1 : 1 ≤ a) (h : 70000000 ≤ a) (w : World) :
    Calls Try.prog 5 #[.int .i64 a, .int .i64 b] w fun e w' => e = .returned (.bool true) ∧ Grown w w' := by
  go_enter Try.func5, Try.ntmps5
  go_wp2_with fail
  go_ret
  exact ⟨rfl, Grown.refl _⟩
set_option maxHeartbeats 400000 in
theorem steps_c (a b : Int) (h1 : 1 ≤ a) (h2 : a < 70000000) (h : b < 1) (w : World) :
    Calls Try.prog 5 #[.int .i64 a, .int .i64 b] w fun e w' => e = .returned (.bool true) ∧ Grown w w' := by
  go_enter Try.func5, Try.ntmps5
  go_wp2_with fail
  go_ret
  exact ⟨rfl, Grown.refl _⟩
set_option maxHeartbeats 400000 in
theorem steps_d (a b : Int) (h1 : 1 ≤ a) (h2 : a < 70000000) (h3 : 1 ≤ b) (h : 70000000 ≤ b) (w : World) :
    Calls Try.prog 5 #[.int .i64 a, .int .i64 b] w fun e w' => e = .returned (.bool true) ∧ Grown w w' := by
  go_enter Try.func5, Try.ntmps5
  go_wp2_with fail
  go_ret
  exact ⟨rfl, Grown.refl _⟩
set_option maxHeartbeats 400000 in
theorem steps_e (a b : Int) (h1 : 1 ≤ a) (h2 : a < 70000000) (h3 : 1 ≤ b) (h4 : b < 70000000) (h : 70000000 ≤ a + b) (w : World) :
    Calls Try.prog 5 #[.int .i64 a, .int .i64 b] w fun e w' => e = .returned (.bool true) ∧ Grown w w' := by
  go_enter Try.func5, Try.ntmps5
  go_wp2_with fail
  go_ret
  exact ⟨rfl, Grown.refl _⟩
set_option maxHeartbeats 400000 in
theorem steps_f (a b : Int) (h1 : 1 ≤ a) (h2 : a < 70000000) (h3 : 1 ≤ b) (h4 : b < 70000000) (h5 : a + b < 70000000) (h : 70000000 ≤ a + 10) (w : World) :
    Calls Try.prog 5 #[.int .i64 a, .int .i64 b] w fun e w' => e = .returned (.bool true) ∧ Grown w w' := by
  go_enter Try.func5, Try.ntmps5
  go_wp2_with fail
  go_ret
  exact ⟨rfl, Grown.refl _⟩

set_option maxHeartbeats 1000000 in
theorem steps_all (a b : Int) (h1 : 1 ≤ a) (h2 : a < 70000000) (h3 : 1 ≤ b) (h4 : b < 70000000) (h5 : a + b < 70000000) (h6 : a + 10 < 70000000) (w : World) :
    Calls Try.prog 5 #[.int .i64 a, .int .i64 b] w fun e w' => e = .returned (.bool true) ∧ Grown w w' := by
  have ⟨la1, la2⟩ := least_bd a h1 h2
  have ⟨lb1, lb2⟩ := least_bd b h3 h4
  have ⟨ls1, ls2⟩ := least_bd (a + b) (by omega) h5
  have ⟨lt1, lt2⟩ := least_bd (a + 10) (by omega) h6
  have ⟨ma1, ma2⟩ := most_bd a h1 h2
  have ⟨mb1, mb2⟩ := most_bd b h3 h4
  have ⟨ms1, ms2⟩ := most_bd (a + b) (by omega) h5
  have ⟨mt1, mt2⟩ := most_bd (a + 10) (by omega) h6
  have ⟨g1, g2⟩ := most_step a
  have ⟨g3, g4⟩ := least_step a
  have k1 := least_mono a (a + b) (by omega)
  have k2 := least_mono b (a + b) (by omega)
  have k3 := most_mono a (a + b) (by omega)
  have k4 := most_mono b (a + b) (by omega)
  have S := most_sum a b
  have t : (most (a + b) == most a + most b) = true ∨ (most (a + b) == most a + most b) = false ∧ (most (a + b) == most a + most b - 1) = true := by
    rcases S with s | s
    · exact Or.inl (by simp; omega)
    · exact Or.inr ⟨by simp; omega, by simp; omega⟩
  clear S
  rcases t with t | ⟨t, t'⟩
  all_goals
    go_enter Try.func5, Try.ntmps5
    go_wp2_with fail
    refine (bounds_any _ h1 h2 _).mono ?_
    rintro e w' ⟨rfl, rfl⟩
    go_wp2_with fail
    refine (bounds_any _ h3 h4 _).mono ?_
    rintro e w' ⟨rfl, rfl⟩
    go_wp2_with fail
    refine (bounds_any _ (by omega) h5 _).mono ?_
    rintro e w' ⟨rfl, rfl⟩
    go_wp2_with fail
    refine (bounds_any _ (by omega) h6 _).mono ?_
    rintro e w' ⟨rfl, rfl⟩
    go_wp2
    go_ret
    exact ⟨rfl, Grown.refl _⟩
end Go.Proofs.Qxb6619627a.Dig
