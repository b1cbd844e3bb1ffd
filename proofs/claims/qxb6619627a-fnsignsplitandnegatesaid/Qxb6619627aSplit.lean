/-
  The walks of 'FnSignSplitAndNegate' (function 7), a case for each triple of signs.
-/
import Derived.Test.Qxb6619627aSgn
namespace Go.Proofs.Qxb6619627a.Flt
open Go.RowKit

/-- Go's '-x' on a float flips the sign bit. -/
theorem unary_neg_float (k : FloatKind) (b : Nat) : Op.unary .neg (.float k b) = pure (.float k (Op.negFloat k b)) := rfl
attribute [local go_sem] unary_neg_float

set_option maxHeartbeats 400000 in
theorem split_out1 (a m b : Nat) (h : (FloatKind.f64.format.order a m == some .lt || FloatKind.f64.format.order a m == some .eq) = false) (w : World) :
    Calls Try.prog 7 #[.float .f64 a, .float .f64 m, .float .f64 b] w fun e w' => e = .returned (.bool true) ∧ Grown w w' := by
  go_enter Try.func7, Try.ntmps7
  go_wp2_with fail
  go_ret
  exact ⟨rfl, Grown.refl _⟩

set_option maxHeartbeats 400000 in
theorem split_out2 (a m b : Nat) (h : (FloatKind.f64.format.order a m == some .lt || FloatKind.f64.format.order a m == some .eq) = true) (h' : (FloatKind.f64.format.order m b == some .lt || FloatKind.f64.format.order m b == some .eq) = false) (w : World) :
    Calls Try.prog 7 #[.float .f64 a, .float .f64 m, .float .f64 b] w fun e w' => e = .returned (.bool true) ∧ Grown w w' := by
  go_enter Try.func7, Try.ntmps7
  go_wp2_with fail
  go_ret
  exact ⟨rfl, Grown.refl _⟩

set_option maxHeartbeats 1000000 in
theorem split_nnn (a m b : Nat) (na : Nn a) (nm : Nn m) (nb : Nn b) (h : (FloatKind.f64.format.order a m == some .lt || FloatKind.f64.format.order a m == some .eq) = true) (h' : (FloatKind.f64.format.order m b == some .lt || FloatKind.f64.format.order m b == some .eq) = true) (ea : sg a = -1) (em : sg m = -1) (eb : sg b = -1) (w : World) :
    Calls Try.prog 7 #[.float .f64 a, .float .f64 m, .float .f64 b] w fun e w' => e = .returned (.bool true) ∧ Grown w w' := by
  have ena : sg (Op.negFloat .f64 a) = 1 := by have := (neg_word a).1; omega
  have enb : sg (Op.negFloat .f64 b) = 1 := by have := (neg_word b).1; omega
  have nna := (neg_word a).2 na
  have nnb := (neg_word b).2 nb
  go_enter Try.func7, Try.ntmps7
  go_wp2_with fail
  refine (sign_neg _ _ na nb (by omega) (by omega) _).mono ?_
  rintro e w' ⟨rfl, c, rfl⟩
  go_wp2_with fail
  refine (sign_neg _ _ na nm (by omega) (by omega) _).mono ?_
  rintro e w' ⟨rfl, c, rfl⟩
  go_wp2_with fail
  refine (sign_neg _ _ nm nb (by omega) (by omega) _).mono ?_
  rintro e w' ⟨rfl, c, rfl⟩
  go_wp2_with fail
  refine (sign_pos _ _ nnb (by omega) _).mono ?_
  rintro e w' ⟨rfl, c, rfl⟩
  go_wp2_with fail
  refine (sign_neg _ _ nm nm (by omega) (by omega) _).mono ?_
  rintro e w' ⟨rfl, c, rfl⟩
  go_wp2_with fail
  refine (num_neg _ nm (by omega) _).mono ?_
  rintro e w' ⟨rfl, rfl⟩
  go_wp2
  go_ret
  exact ⟨rfl, by repeat (first | exact Grown.refl _ | apply Grown.alloc)⟩

set_option maxHeartbeats 1000000 in
theorem split_nnz (a m b : Nat) (na : Nn a) (nm : Nn m) (nb : Nn b) (h : (FloatKind.f64.format.order a m == some .lt || FloatKind.f64.format.order a m == some .eq) = true) (h' : (FloatKind.f64.format.order m b == some .lt || FloatKind.f64.format.order m b == some .eq) = true) (ea : sg a = -1) (em : sg m = -1) (eb : sg b = 0) (w : World) :
    Calls Try.prog 7 #[.float .f64 a, .float .f64 m, .float .f64 b] w fun e w' => e = .returned (.bool true) ∧ Grown w w' := by
  have ena : sg (Op.negFloat .f64 a) = 1 := by have := (neg_word a).1; omega
  have enb : sg (Op.negFloat .f64 b) = 0 := by have := (neg_word b).1; omega
  have nna := (neg_word a).2 na
  have nnb := (neg_word b).2 nb
  go_enter Try.func7, Try.ntmps7
  go_wp2_with fail
  refine (sign_none _ _ na nb (by omega) (by omega) _).mono ?_
  rintro e w' ⟨rfl, c, rfl⟩
  go_wp2_with fail
  refine (sign_neg _ _ na nm (by omega) (by omega) _).mono ?_
  rintro e w' ⟨rfl, c, rfl⟩
  go_wp2_with fail
  refine (sign_none _ _ nm nb (by omega) (by omega) _).mono ?_
  rintro e w' ⟨rfl, c, rfl⟩
  go_wp2_with fail
  refine (sign_none _ _ nnb nna (by omega) (by omega) _).mono ?_
  rintro e w' ⟨rfl, c, rfl⟩
  go_wp2_with fail
  refine (sign_neg _ _ nm nm (by omega) (by omega) _).mono ?_
  rintro e w' ⟨rfl, c, rfl⟩
  go_wp2_with fail
  refine (num_neg _ nm (by omega) _).mono ?_
  rintro e w' ⟨rfl, rfl⟩
  go_wp2
  go_ret
  exact ⟨rfl, by repeat (first | exact Grown.refl _ | apply Grown.alloc)⟩

set_option maxHeartbeats 1000000 in
theorem split_nnp (a m b : Nat) (na : Nn a) (nm : Nn m) (nb : Nn b) (h : (FloatKind.f64.format.order a m == some .lt || FloatKind.f64.format.order a m == some .eq) = true) (h' : (FloatKind.f64.format.order m b == some .lt || FloatKind.f64.format.order m b == some .eq) = true) (ea : sg a = -1) (em : sg m = -1) (eb : sg b = 1) (w : World) :
    Calls Try.prog 7 #[.float .f64 a, .float .f64 m, .float .f64 b] w fun e w' => e = .returned (.bool true) ∧ Grown w w' := by
  have ena : sg (Op.negFloat .f64 a) = 1 := by have := (neg_word a).1; omega
  have enb : sg (Op.negFloat .f64 b) = -1 := by have := (neg_word b).1; omega
  have nna := (neg_word a).2 na
  have nnb := (neg_word b).2 nb
  go_enter Try.func7, Try.ntmps7
  go_wp2_with fail
  refine (sign_none _ _ na nb (by omega) (by omega) _).mono ?_
  rintro e w' ⟨rfl, c, rfl⟩
  go_wp2_with fail
  refine (sign_neg _ _ na nm (by omega) (by omega) _).mono ?_
  rintro e w' ⟨rfl, c, rfl⟩
  go_wp2_with fail
  refine (sign_none _ _ nm nb (by omega) (by omega) _).mono ?_
  rintro e w' ⟨rfl, c, rfl⟩
  go_wp2_with fail
  refine (sign_none _ _ nnb nna (by omega) (by omega) _).mono ?_
  rintro e w' ⟨rfl, c, rfl⟩
  go_wp2_with fail
  refine (sign_neg _ _ nm nm (by omega) (by omega) _).mono ?_
  rintro e w' ⟨rfl, c, rfl⟩
  go_wp2_with fail
  refine (num_neg _ nm (by omega) _).mono ?_
  rintro e w' ⟨rfl, rfl⟩
  go_wp2
  go_ret
  exact ⟨rfl, by repeat (first | exact Grown.refl _ | apply Grown.alloc)⟩

set_option maxHeartbeats 1000000 in
theorem split_nzz (a m b : Nat) (na : Nn a) (nm : Nn m) (nb : Nn b) (h : (FloatKind.f64.format.order a m == some .lt || FloatKind.f64.format.order a m == some .eq) = true) (h' : (FloatKind.f64.format.order m b == some .lt || FloatKind.f64.format.order m b == some .eq) = true) (ea : sg a = -1) (em : sg m = 0) (eb : sg b = 0) (w : World) :
    Calls Try.prog 7 #[.float .f64 a, .float .f64 m, .float .f64 b] w fun e w' => e = .returned (.bool true) ∧ Grown w w' := by
  have ena : sg (Op.negFloat .f64 a) = 1 := by have := (neg_word a).1; omega
  have enb : sg (Op.negFloat .f64 b) = 0 := by have := (neg_word b).1; omega
  have nna := (neg_word a).2 na
  have nnb := (neg_word b).2 nb
  go_enter Try.func7, Try.ntmps7
  go_wp2_with fail
  refine (sign_none _ _ na nb (by omega) (by omega) _).mono ?_
  rintro e w' ⟨rfl, c, rfl⟩
  go_wp2_with fail
  refine (sign_none _ _ na nm (by omega) (by omega) _).mono ?_
  rintro e w' ⟨rfl, c, rfl⟩
  go_wp2_with fail
  refine (sign_none _ _ nm nb (by omega) (by omega) _).mono ?_
  rintro e w' ⟨rfl, c, rfl⟩
  go_wp2_with fail
  refine (sign_none _ _ nnb nna (by omega) (by omega) _).mono ?_
  rintro e w' ⟨rfl, c, rfl⟩
  go_wp2_with fail
  refine (sign_none _ _ nm nm (by omega) (by omega) _).mono ?_
  rintro e w' ⟨rfl, c, rfl⟩
  go_wp2_with fail
  refine (num_none _ nm (by omega) _).mono ?_
  rintro e w' ⟨rfl, rfl⟩
  go_wp2
  go_ret
  exact ⟨rfl, by repeat (first | exact Grown.refl _ | apply Grown.alloc)⟩

set_option maxHeartbeats 1000000 in
theorem split_nzp (a m b : Nat) (na : Nn a) (nm : Nn m) (nb : Nn b) (h : (FloatKind.f64.format.order a m == some .lt || FloatKind.f64.format.order a m == some .eq) = true) (h' : (FloatKind.f64.format.order m b == some .lt || FloatKind.f64.format.order m b == some .eq) = true) (ea : sg a = -1) (em : sg m = 0) (eb : sg b = 1) (w : World) :
    Calls Try.prog 7 #[.float .f64 a, .float .f64 m, .float .f64 b] w fun e w' => e = .returned (.bool true) ∧ Grown w w' := by
  have ena : sg (Op.negFloat .f64 a) = 1 := by have := (neg_word a).1; omega
  have enb : sg (Op.negFloat .f64 b) = -1 := by have := (neg_word b).1; omega
  have nna := (neg_word a).2 na
  have nnb := (neg_word b).2 nb
  go_enter Try.func7, Try.ntmps7
  go_wp2_with fail
  refine (sign_none _ _ na nb (by omega) (by omega) _).mono ?_
  rintro e w' ⟨rfl, c, rfl⟩
  go_wp2_with fail
  refine (sign_none _ _ na nm (by omega) (by omega) _).mono ?_
  rintro e w' ⟨rfl, c, rfl⟩
  go_wp2_with fail
  refine (sign_none _ _ nm nb (by omega) (by omega) _).mono ?_
  rintro e w' ⟨rfl, c, rfl⟩
  go_wp2_with fail
  refine (sign_none _ _ nnb nna (by omega) (by omega) _).mono ?_
  rintro e w' ⟨rfl, c, rfl⟩
  go_wp2_with fail
  refine (sign_none _ _ nm nm (by omega) (by omega) _).mono ?_
  rintro e w' ⟨rfl, c, rfl⟩
  go_wp2_with fail
  refine (num_none _ nm (by omega) _).mono ?_
  rintro e w' ⟨rfl, rfl⟩
  go_wp2
  go_ret
  exact ⟨rfl, by repeat (first | exact Grown.refl _ | apply Grown.alloc)⟩

set_option maxHeartbeats 1000000 in
theorem split_npp (a m b : Nat) (na : Nn a) (nm : Nn m) (nb : Nn b) (h : (FloatKind.f64.format.order a m == some .lt || FloatKind.f64.format.order a m == some .eq) = true) (h' : (FloatKind.f64.format.order m b == some .lt || FloatKind.f64.format.order m b == some .eq) = true) (ea : sg a = -1) (em : sg m = 1) (eb : sg b = 1) (w : World) :
    Calls Try.prog 7 #[.float .f64 a, .float .f64 m, .float .f64 b] w fun e w' => e = .returned (.bool true) ∧ Grown w w' := by
  have ena : sg (Op.negFloat .f64 a) = 1 := by have := (neg_word a).1; omega
  have enb : sg (Op.negFloat .f64 b) = -1 := by have := (neg_word b).1; omega
  have nna := (neg_word a).2 na
  have nnb := (neg_word b).2 nb
  go_enter Try.func7, Try.ntmps7
  go_wp2_with fail
  refine (sign_none _ _ na nb (by omega) (by omega) _).mono ?_
  rintro e w' ⟨rfl, c, rfl⟩
  go_wp2_with fail
  refine (sign_none _ _ na nm (by omega) (by omega) _).mono ?_
  rintro e w' ⟨rfl, c, rfl⟩
  go_wp2_with fail
  refine (sign_pos _ _ nm (by omega) _).mono ?_
  rintro e w' ⟨rfl, c, rfl⟩
  go_wp2_with fail
  refine (sign_none _ _ nnb nna (by omega) (by omega) _).mono ?_
  rintro e w' ⟨rfl, c, rfl⟩
  go_wp2_with fail
  refine (sign_pos _ _ nm (by omega) _).mono ?_
  rintro e w' ⟨rfl, c, rfl⟩
  go_wp2_with fail
  refine (num_pos _ nm (by omega) _).mono ?_
  rintro e w' ⟨rfl, rfl⟩
  go_wp2
  go_ret
  exact ⟨rfl, by repeat (first | exact Grown.refl _ | apply Grown.alloc)⟩

set_option maxHeartbeats 1000000 in
theorem split_zzz (a m b : Nat) (na : Nn a) (nm : Nn m) (nb : Nn b) (h : (FloatKind.f64.format.order a m == some .lt || FloatKind.f64.format.order a m == some .eq) = true) (h' : (FloatKind.f64.format.order m b == some .lt || FloatKind.f64.format.order m b == some .eq) = true) (ea : sg a = 0) (em : sg m = 0) (eb : sg b = 0) (w : World) :
    Calls Try.prog 7 #[.float .f64 a, .float .f64 m, .float .f64 b] w fun e w' => e = .returned (.bool true) ∧ Grown w w' := by
  have ena : sg (Op.negFloat .f64 a) = 0 := by have := (neg_word a).1; omega
  have enb : sg (Op.negFloat .f64 b) = 0 := by have := (neg_word b).1; omega
  have nna := (neg_word a).2 na
  have nnb := (neg_word b).2 nb
  go_enter Try.func7, Try.ntmps7
  go_wp2_with fail
  refine (sign_none _ _ na nb (by omega) (by omega) _).mono ?_
  rintro e w' ⟨rfl, c, rfl⟩
  go_wp2_with fail
  refine (sign_none _ _ na nm (by omega) (by omega) _).mono ?_
  rintro e w' ⟨rfl, c, rfl⟩
  go_wp2_with fail
  refine (sign_none _ _ nm nb (by omega) (by omega) _).mono ?_
  rintro e w' ⟨rfl, c, rfl⟩
  go_wp2_with fail
  refine (sign_none _ _ nnb nna (by omega) (by omega) _).mono ?_
  rintro e w' ⟨rfl, c, rfl⟩
  go_wp2_with fail
  refine (sign_none _ _ nm nm (by omega) (by omega) _).mono ?_
  rintro e w' ⟨rfl, c, rfl⟩
  go_wp2_with fail
  refine (num_none _ nm (by omega) _).mono ?_
  rintro e w' ⟨rfl, rfl⟩
  go_wp2
  go_ret
  exact ⟨rfl, by repeat (first | exact Grown.refl _ | apply Grown.alloc)⟩

set_option maxHeartbeats 1000000 in
theorem split_zzp (a m b : Nat) (na : Nn a) (nm : Nn m) (nb : Nn b) (h : (FloatKind.f64.format.order a m == some .lt || FloatKind.f64.format.order a m == some .eq) = true) (h' : (FloatKind.f64.format.order m b == some .lt || FloatKind.f64.format.order m b == some .eq) = true) (ea : sg a = 0) (em : sg m = 0) (eb : sg b = 1) (w : World) :
    Calls Try.prog 7 #[.float .f64 a, .float .f64 m, .float .f64 b] w fun e w' => e = .returned (.bool true) ∧ Grown w w' := by
  have ena : sg (Op.negFloat .f64 a) = 0 := by have := (neg_word a).1; omega
  have enb : sg (Op.negFloat .f64 b) = -1 := by have := (neg_word b).1; omega
  have nna := (neg_word a).2 na
  have nnb := (neg_word b).2 nb
  go_enter Try.func7, Try.ntmps7
  go_wp2_with fail
  refine (sign_none _ _ na nb (by omega) (by omega) _).mono ?_
  rintro e w' ⟨rfl, c, rfl⟩
  go_wp2_with fail
  refine (sign_none _ _ na nm (by omega) (by omega) _).mono ?_
  rintro e w' ⟨rfl, c, rfl⟩
  go_wp2_with fail
  refine (sign_none _ _ nm nb (by omega) (by omega) _).mono ?_
  rintro e w' ⟨rfl, c, rfl⟩
  go_wp2_with fail
  refine (sign_none _ _ nnb nna (by omega) (by omega) _).mono ?_
  rintro e w' ⟨rfl, c, rfl⟩
  go_wp2_with fail
  refine (sign_none _ _ nm nm (by omega) (by omega) _).mono ?_
  rintro e w' ⟨rfl, c, rfl⟩
  go_wp2_with fail
  refine (num_none _ nm (by omega) _).mono ?_
  rintro e w' ⟨rfl, rfl⟩
  go_wp2
  go_ret
  exact ⟨rfl, by repeat (first | exact Grown.refl _ | apply Grown.alloc)⟩

set_option maxHeartbeats 1000000 in
theorem split_zpp (a m b : Nat) (na : Nn a) (nm : Nn m) (nb : Nn b) (h : (FloatKind.f64.format.order a m == some .lt || FloatKind.f64.format.order a m == some .eq) = true) (h' : (FloatKind.f64.format.order m b == some .lt || FloatKind.f64.format.order m b == some .eq) = true) (ea : sg a = 0) (em : sg m = 1) (eb : sg b = 1) (w : World) :
    Calls Try.prog 7 #[.float .f64 a, .float .f64 m, .float .f64 b] w fun e w' => e = .returned (.bool true) ∧ Grown w w' := by
  have ena : sg (Op.negFloat .f64 a) = 0 := by have := (neg_word a).1; omega
  have enb : sg (Op.negFloat .f64 b) = -1 := by have := (neg_word b).1; omega
  have nna := (neg_word a).2 na
  have nnb := (neg_word b).2 nb
  go_enter Try.func7, Try.ntmps7
  go_wp2_with fail
  refine (sign_none _ _ na nb (by omega) (by omega) _).mono ?_
  rintro e w' ⟨rfl, c, rfl⟩
  go_wp2_with fail
  refine (sign_none _ _ na nm (by omega) (by omega) _).mono ?_
  rintro e w' ⟨rfl, c, rfl⟩
  go_wp2_with fail
  refine (sign_pos _ _ nm (by omega) _).mono ?_
  rintro e w' ⟨rfl, c, rfl⟩
  go_wp2_with fail
  refine (sign_none _ _ nnb nna (by omega) (by omega) _).mono ?_
  rintro e w' ⟨rfl, c, rfl⟩
  go_wp2_with fail
  refine (sign_pos _ _ nm (by omega) _).mono ?_
  rintro e w' ⟨rfl, c, rfl⟩
  go_wp2_with fail
  refine (num_pos _ nm (by omega) _).mono ?_
  rintro e w' ⟨rfl, rfl⟩
  go_wp2
  go_ret
  exact ⟨rfl, by repeat (first | exact Grown.refl _ | apply Grown.alloc)⟩

set_option maxHeartbeats 1000000 in
theorem split_ppp (a m b : Nat) (na : Nn a) (nm : Nn m) (nb : Nn b) (h : (FloatKind.f64.format.order a m == some .lt || FloatKind.f64.format.order a m == some .eq) = true) (h' : (FloatKind.f64.format.order m b == some .lt || FloatKind.f64.format.order m b == some .eq) = true) (ea : sg a = 1) (em : sg m = 1) (eb : sg b = 1) (w : World) :
    Calls Try.prog 7 #[.float .f64 a, .float .f64 m, .float .f64 b] w fun e w' => e = .returned (.bool true) ∧ Grown w w' := by
  have ena : sg (Op.negFloat .f64 a) = -1 := by have := (neg_word a).1; omega
  have enb : sg (Op.negFloat .f64 b) = -1 := by have := (neg_word b).1; omega
  have nna := (neg_word a).2 na
  have nnb := (neg_word b).2 nb
  go_enter Try.func7, Try.ntmps7
  go_wp2_with fail
  refine (sign_pos _ _ na (by omega) _).mono ?_
  rintro e w' ⟨rfl, c, rfl⟩
  go_wp2_with fail
  refine (sign_pos _ _ na (by omega) _).mono ?_
  rintro e w' ⟨rfl, c, rfl⟩
  go_wp2_with fail
  refine (sign_pos _ _ nm (by omega) _).mono ?_
  rintro e w' ⟨rfl, c, rfl⟩
  go_wp2_with fail
  refine (sign_neg _ _ nnb nna (by omega) (by omega) _).mono ?_
  rintro e w' ⟨rfl, c, rfl⟩
  go_wp2_with fail
  refine (sign_pos _ _ nm (by omega) _).mono ?_
  rintro e w' ⟨rfl, c, rfl⟩
  go_wp2_with fail
  refine (num_pos _ nm (by omega) _).mono ?_
  rintro e w' ⟨rfl, rfl⟩
  go_wp2
  go_ret
  exact ⟨rfl, by repeat (first | exact Grown.refl _ | apply Grown.alloc)⟩

end Go.Proofs.Qxb6619627a.Flt
