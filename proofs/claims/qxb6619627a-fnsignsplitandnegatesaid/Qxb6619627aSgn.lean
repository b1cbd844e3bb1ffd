/-
  The contracts of 'Interval.Sign' (function 11) and 'numSign' (function 12), by the signs of the ends.
-/
import Derived.Test.Qxb6619627aFlt
import Derived.WalkSpells
import Derived.RowKit3
namespace Go.Proofs.Qxb6619627a.Flt
open Go.RowKit

/-- The sign of a float64 word; no NaN. -/
def sg (b : Nat) : Int := sgD (Ieee.double.read b)
def Nn (b : Nat) : Prop := isNan (Ieee.double.read b) = false

theorem sg_cases (b : Nat) : sg b = -1 ∨ sg b = 0 ∨ sg b = 1 := sgD_cases _

theorem order0 (b : Nat) (h : Nn b) : FloatKind.f64.format.order b 0 = some (compare (sg b) 0) := by
  show (Ieee.double.read b).order (Ieee.double.read 0) = _
  rw [show Ieee.double.read 0 = .number false 0 Ieee.double.leastPlace from by decide]
  exact order_zero _ _ h

theorem gt0_yes (b : Nat) (h : Nn b) (e : sg b = 1) : (FloatKind.f64.format.order b 0 == some .gt) = true := by
  rw [order0 b h, e]; rfl
theorem gt0_no (b : Nat) (h : Nn b) (e : sg b ≠ 1) : (FloatKind.f64.format.order b 0 == some .gt) = false := by
  rw [order0 b h]
  rcases sg_cases b with k | k | k
  · rw [k]; rfl
  · rw [k]; rfl
  · exact absurd k e
theorem lt0_yes (b : Nat) (h : Nn b) (e : sg b = -1) : (FloatKind.f64.format.order b 0 == some .lt) = true := by
  rw [order0 b h, e]; rfl
theorem lt0_no (b : Nat) (h : Nn b) (e : sg b ≠ -1) : (FloatKind.f64.format.order b 0 == some .lt) = false := by
  rw [order0 b h]
  rcases sg_cases b with k | k | k
  · exact absurd k e
  · rw [k]; rfl
  · rw [k]; rfl

theorem le_mono (a b : Nat) (h : (FloatKind.f64.format.order a b == some .lt || FloatKind.f64.format.order a b == some .eq) = true) : Nn a ∧ Nn b ∧ sg a ≤ sg b := by
  have h' : FloatKind.f64.format.order a b = some .lt ∨ FloatKind.f64.format.order a b = some .eq := by simpa using h
  exact order_mono _ _ h'

theorem neg_word (b : Nat) : sg (Op.negFloat .f64 b) = - sg b ∧ (Nn b → Nn (Op.negFloat .f64 b)) := by
  have e : Ieee.double.read (Op.negFloat .f64 b) = (Ieee.double.read b).opposite := read_neg b
  unfold sg Nn
  rw [e, sgD_opposite, isNan_opposite]
  exact ⟨rfl, fun h => h⟩

/-! ### The contracts -/
set_option maxHeartbeats 400000 in
theorem sign_pos (a b : Nat) (ha : Nn a) (e : sg a = 1) (w : World) :
    Calls Try.prog 11 #[.agg #[.float .f64 a, .float .f64 b]] w fun e w' => e = .returned (.tuple #[.int .i64 1, .bool true]) ∧ ∃ c, w' = w.alloc (.cells c 31) := by
  have t := gt0_yes a ha e
  clear e
  go_enter Try.func11, Try.ntmps11
  go_wp2
  go_ret2
  exact ⟨rfl, _, rfl⟩

set_option maxHeartbeats 400000 in
theorem sign_neg (a b : Nat) (ha : Nn a) (hb : Nn b) (e : sg a ≠ 1) (e' : sg b = -1) (w : World) :
    Calls Try.prog 11 #[.agg #[.float .f64 a, .float .f64 b]] w fun e w' => e = .returned (.tuple #[.int .i64 (-1), .bool true]) ∧ ∃ c, w' = w.alloc (.cells c 31) := by
  have t := gt0_no a ha e
  have t' := lt0_yes b hb e'
  clear e e'
  go_enter Try.func11, Try.ntmps11
  go_wp2
  go_ret2
  exact ⟨rfl, _, rfl⟩

set_option maxHeartbeats 400000 in
theorem sign_none (a b : Nat) (ha : Nn a) (hb : Nn b) (e : sg a ≠ 1) (e' : sg b ≠ -1) (w : World) :
    Calls Try.prog 11 #[.agg #[.float .f64 a, .float .f64 b]] w fun e w' => e = .returned (.tuple #[.int .i64 0, .bool false]) ∧ ∃ c, w' = w.alloc (.cells c 31) := by
  have t := gt0_no a ha e
  have t' := lt0_no b hb e'
  clear e e'
  go_enter Try.func11, Try.ntmps11
  go_wp2
  go_ret2
  exact ⟨rfl, _, rfl⟩

set_option maxHeartbeats 400000 in
theorem num_pos (a : Nat) (ha : Nn a) (e : sg a = 1) (w : World) :
    Calls Try.prog 12 #[.float .f64 a] w fun e w' => e = .returned (.tuple #[.int .i64 1, .bool true]) ∧ w' = w := by
  have t := gt0_yes a ha e
  clear e
  go_enter Try.func12, Try.ntmps12
  go_wp2
  go_ret2
  exact ⟨rfl, rfl⟩

set_option maxHeartbeats 400000 in
theorem num_neg (a : Nat) (ha : Nn a) (e : sg a = -1) (w : World) :
    Calls Try.prog 12 #[.float .f64 a] w fun e w' => e = .returned (.tuple #[.int .i64 (-1), .bool true]) ∧ w' = w := by
  have t := gt0_no a ha (by omega)
  have t' := lt0_yes a ha e
  clear e
  go_enter Try.func12, Try.ntmps12
  go_wp2
  go_ret2
  exact ⟨rfl, rfl⟩

set_option maxHeartbeats 400000 in
theorem num_none (a : Nat) (ha : Nn a) (e : sg a = 0) (w : World) :
    Calls Try.prog 12 #[.float .f64 a] w fun e w' => e = .returned (.tuple #[.int .i64 0, .bool false]) ∧ w' = w := by
  have t := gt0_no a ha (by omega)
  have t' := lt0_no a ha (by omega)
  clear e
  go_enter Try.func12, Try.ntmps12
  go_wp2
  go_ret2
  exact ⟨rfl, rfl⟩

end Go.Proofs.Qxb6619627a.Flt
