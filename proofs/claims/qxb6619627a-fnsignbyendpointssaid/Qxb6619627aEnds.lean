/-
  The walks of 'FnSignByEndPoints' (function 6), a case for each pair of signs.
-/
import Derived.Test.Qxb6619627aSgn
namespace Go.Proofs.Qxb6619627a.Flt
open Go.RowKit

set_option maxHeartbeats 400000 in
theorem ends_out (a b : Nat) (h : (FloatKind.f64.format.order a b == some .lt || FloatKind.f64.format.order a b == some .eq) = false) (w : World) :
    Calls Try.prog 6 #[.float .f64 a, .float .f64 b] w fun e w' => e = .returned (.bool true) ∧ Grown w w' := by
  go_enter Try.func6, Try.ntmps6
  go_wp2_with fail
  go_ret
  exact ⟨rfl, Grown.refl _⟩

set_option maxHeartbeats 1000000 in
theorem ends_nn (a b : Nat) (na : Nn a) (nb : Nn b) (h : (FloatKind.f64.format.order a b == some .lt || FloatKind.f64.format.order a b == some .eq) = true) (ea : sg a = -1) (eb : sg b = -1) (w : World) :
    Calls Try.prog 6 #[.float .f64 a, .float .f64 b] w fun e w' => e = .returned (.bool true) ∧ Grown w w' := by
  go_enter Try.func6, Try.ntmps6
  go_wp2_with fail
  refine (sign_neg _ _ na nb (by omega) (by omega) _).mono ?_
  rintro e w' ⟨rfl, c, rfl⟩
  go_wp2_with fail
  refine (sign_neg _ _ na na (by omega) (by omega) _).mono ?_
  rintro e w' ⟨rfl, c, rfl⟩
  go_wp2_with fail
  refine (sign_neg _ _ nb nb (by omega) (by omega) _).mono ?_
  rintro e w' ⟨rfl, c, rfl⟩
  go_wp2_with fail
  refine (num_neg _ na (by omega) _).mono ?_
  rintro e w' ⟨rfl, rfl⟩
  go_wp2_with fail
  refine (num_neg _ nb (by omega) _).mono ?_
  rintro e w' ⟨rfl, rfl⟩
  go_wp2
  go_ret
  exact ⟨rfl, by repeat (first | exact Grown.refl _ | apply Grown.alloc)⟩

set_option maxHeartbeats 1000000 in
theorem ends_nz (a b : Nat) (na : Nn a) (nb : Nn b) (h : (FloatKind.f64.format.order a b == some .lt || FloatKind.f64.format.order a b == some .eq) = true) (ea : sg a = -1) (eb : sg b = 0) (w : World) :
    Calls Try.prog 6 #[.float .f64 a, .float .f64 b] w fun e w' => e = .returned (.bool true) ∧ Grown w w' := by
  go_enter Try.func6, Try.ntmps6
  go_wp2_with fail
  refine (sign_none _ _ na nb (by omega) (by omega) _).mono ?_
  rintro e w' ⟨rfl, c, rfl⟩
  go_wp2_with fail
  refine (sign_neg _ _ na na (by omega) (by omega) _).mono ?_
  rintro e w' ⟨rfl, c, rfl⟩
  go_wp2_with fail
  refine (sign_none _ _ nb nb (by omega) (by omega) _).mono ?_
  rintro e w' ⟨rfl, c, rfl⟩
  go_wp2_with fail
  refine (num_neg _ na (by omega) _).mono ?_
  rintro e w' ⟨rfl, rfl⟩
  go_wp2_with fail
  refine (num_none _ nb (by omega) _).mono ?_
  rintro e w' ⟨rfl, rfl⟩
  go_wp2
  go_ret
  exact ⟨rfl, by repeat (first | exact Grown.refl _ | apply Grown.alloc)⟩

set_option maxHeartbeats 1000000 in
theorem ends_np (a b : Nat) (na : Nn a) (nb : Nn b) (h : (FloatKind.f64.format.order a b == some .lt || FloatKind.f64.format.order a b == some .eq) = true) (ea : sg a = -1) (eb : sg b = 1) (w : World) :
    Calls Try.prog 6 #[.float .f64 a, .float .f64 b] w fun e w' => e = .returned (.bool true) ∧ Grown w w' := by
  go_enter Try.func6, Try.ntmps6
  go_wp2_with fail
  refine (sign_none _ _ na nb (by omega) (by omega) _).mono ?_
  rintro e w' ⟨rfl, c, rfl⟩
  go_wp2_with fail
  refine (sign_neg _ _ na na (by omega) (by omega) _).mono ?_
  rintro e w' ⟨rfl, c, rfl⟩
  go_wp2_with fail
  refine (sign_pos _ _ nb (by omega) _).mono ?_
  rintro e w' ⟨rfl, c, rfl⟩
  go_wp2_with fail
  refine (num_neg _ na (by omega) _).mono ?_
  rintro e w' ⟨rfl, rfl⟩
  go_wp2_with fail
  refine (num_pos _ nb (by omega) _).mono ?_
  rintro e w' ⟨rfl, rfl⟩
  go_wp2
  go_ret
  exact ⟨rfl, by repeat (first | exact Grown.refl _ | apply Grown.alloc)⟩

set_option maxHeartbeats 1000000 in
theorem ends_zz (a b : Nat) (na : Nn a) (nb : Nn b) (h : (FloatKind.f64.format.order a b == some .lt || FloatKind.f64.format.order a b == some .eq) = true) (ea : sg a = 0) (eb : sg b = 0) (w : World) :
    Calls Try.prog 6 #[.float .f64 a, .float .f64 b] w fun e w' => e = .returned (.bool true) ∧ Grown w w' := by
  go_enter Try.func6, Try.ntmps6
  go_wp2_with fail
  refine (sign_none _ _ na nb (by omega) (by omega) _).mono ?_
  rintro e w' ⟨rfl, c, rfl⟩
  go_wp2_with fail
  refine (sign_none _ _ na na (by omega) (by omega) _).mono ?_
  rintro e w' ⟨rfl, c, rfl⟩
  go_wp2_with fail
  refine (sign_none _ _ nb nb (by omega) (by omega) _).mono ?_
  rintro e w' ⟨rfl, c, rfl⟩
  go_wp2_with fail
  refine (num_none _ na (by omega) _).mono ?_
  rintro e w' ⟨rfl, rfl⟩
  go_wp2_with fail
  refine (num_none _ nb (by omega) _).mono ?_
  rintro e w' ⟨rfl, rfl⟩
  go_wp2
  go_ret
  exact ⟨rfl, by repeat (first | exact Grown.refl _ | apply Grown.alloc)⟩

set_option maxHeartbeats 1000000 in
theorem ends_zp (a b : Nat) (na : Nn a) (nb : Nn b) (h : (FloatKind.f64.format.order a b == some .lt || FloatKind.f64.format.order a b == some .eq) = true) (ea : sg a = 0) (eb : sg b = 1) (w : World) :
    Calls Try.prog 6 #[.float .f64 a, .float .f64 b] w fun e w' => e = .returned (.bool true) ∧ Grown w w' := by
  go_enter Try.func6, Try.ntmps6
  go_wp2_with fail
  refine (sign_none _ _ na nb (by omega) (by omega) _).mono ?_
  rintro e w' ⟨rfl, c, rfl⟩
  go_wp2_with fail
  refine (sign_none _ _ na na (by omega) (by omega) _).mono ?_
  rintro e w' ⟨rfl, c, rfl⟩
  go_wp2_with fail
  refine (sign_pos _ _ nb (by omega) _).mono ?_
  rintro e w' ⟨rfl, c, rfl⟩
  go_wp2_with fail
  refine (num_none _ na (by omega) _).mono ?_
  rintro e w' ⟨rfl, rfl⟩
  go_wp2_with fail
  refine (num_pos _ nb (by omega) _).mono ?_
  rintro e w' ⟨rfl, rfl⟩
  go_wp2
  go_ret
  exact ⟨rfl, by repeat (first | exact Grown.refl _ | apply Grown.alloc)⟩

set_option maxHeartbeats 1000000 in
theorem ends_pp (a b : Nat) (na : Nn a) (nb : Nn b) (h : (FloatKind.f64.format.order a b == some .lt || FloatKind.f64.format.order a b == some .eq) = true) (ea : sg a = 1) (eb : sg b = 1) (w : World) :
    Calls Try.prog 6 #[.float .f64 a, .float .f64 b] w fun e w' => e = .returned (.bool true) ∧ Grown w w' := by
  go_enter Try.func6, Try.ntmps6
  go_wp2_with fail
  refine (sign_pos _ _ na (by omega) _).mono ?_
  rintro e w' ⟨rfl, c, rfl⟩
  go_wp2_with fail
  refine (sign_pos _ _ na (by omega) _).mono ?_
  rintro e w' ⟨rfl, c, rfl⟩
  go_wp2_with fail
  refine (sign_pos _ _ nb (by omega) _).mono ?_
  rintro e w' ⟨rfl, c, rfl⟩
  go_wp2_with fail
  refine (num_pos _ na (by omega) _).mono ?_
  rintro e w' ⟨rfl, rfl⟩
  go_wp2_with fail
  refine (num_pos _ nb (by omega) _).mono ?_
  rintro e w' ⟨rfl, rfl⟩
  go_wp2
  go_ret
  exact ⟨rfl, by repeat (first | exact Grown.refl _ | apply Grown.alloc)⟩

end Go.Proofs.Qxb6619627a.Flt
