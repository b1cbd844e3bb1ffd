/-
  The value of a hexadecimal digit, and the contract of 'hexValue' (function 11).
-/
import Derived.Test.Qxb6619895aRows
import Derived.WalkKit
import Derived.WalkSpells
import Derived.WalkLawsBesides
namespace Go.Proofs.Qxb6619895a.Hex
open Go.RowKit

theorem ret_int {k : IntKind} {a b : Int} (h : a = b) : Ending.returned (.int k a) = .returned (.int k b) := by rw [h]

/-- The value of the byte c as a hexadecimal digit, -1 where it is none. -/
def hexv (c : Int) : Int :=
  if 48 ≤ c ∧ c ≤ 57 then c - 48 else if 97 ≤ c ∧ c ≤ 102 then c - 87 else if 65 ≤ c ∧ c ≤ 70 then c - 55 else -1

theorem hexv_bd (c : Int) : -1 ≤ hexv c ∧ hexv c ≤ 15 := by
  unfold hexv
  split
  · omega
  · split
    · omega
    · split <;> omega

theorem hexv_dig (c : Int) (h : 48 ≤ c ∧ c ≤ 57) : hexv c = c - 48 := by unfold hexv; rw [if_pos h]
theorem hexv_low (c : Int) (h : 97 ≤ c ∧ c ≤ 102) : hexv c = c - 87 := by unfold hexv; rw [if_neg (by omega), if_pos h]
theorem hexv_upp (c : Int) (h : 65 ≤ c ∧ c ≤ 70) : hexv c = c - 55 := by unfold hexv; rw [if_neg (by omega), if_neg (by omega), if_pos h]
theorem hexv_none (c : Int) (h1 : ¬ (48 ≤ c ∧ c ≤ 57)) (h2 : ¬ (97 ≤ c ∧ c ≤ 102)) (h3 : ¬ (65 ≤ c ∧ c ≤ 70)) : hexv c = -1 := by
  unfold hexv; rw [if_neg h1, if_neg h2, if_neg h3]

set_option maxHeartbeats 400000 in
theorem hex_any (c : Int) (h0 : 0 ≤ c) (h1 : c ≤ 255) (w : World) :
    Calls Try.prog 11 #[.int .u8 c] w fun e w' => e = .returned (.int .i32 (hexv c)) ∧ w' = w := by
  go_enter Try.func11, Try.ntmps11
  go_wp2
  all_goals
    go_ret
    refine ⟨ret_int ?_, rfl⟩
    unfold hexv
    (repeat' split) <;> omega

end Go.Proofs.Qxb6619895a.Hex
