/-
  The contracts of 'digitBounds', 'ZZdigitBounds' (functions 15, 10) and 'floorLog10Of2Times' (13) below 7*10^7, and the plain laws over them.
-/
import Derived.Test.Qxb6619627aRows
import Derived.WalkKit
import Derived.WalkSpells
import Derived.RowKit3
namespace Go.Proofs.Qxb6619627a.Dig
open Go.RowKit

/-! ### The plain functions -/
def least (n : Int) : Int := (n - 1) * 30102999 / 100000000 + 1
def most (n : Int) : Int := n * 30103 / 100000 + 1
def flog (n : Int) : Int := (n * 301029995 + n * 663981195 / 1000000000) / 1000000000

/-! ### The plain laws -/
theorem least_bd (n : Int) (h0 : 1 ≤ n) (h1 : n < 70000000) : 1 ≤ least n ∧ least n ≤ 30000000 := by unfold least; omega
theorem most_bd (n : Int) (h0 : 1 ≤ n) (h1 : n < 70000000) : 1 ≤ most n ∧ most n ≤ 30000000 := by unfold most; omega
theorem flog_bd (n : Int) (h0 : 0 ≤ n) (h1 : n < 70000000) : 0 ≤ flog n ∧ flog n ≤ 30000000 := by unfold flog; omega
theorem most_step (a : Int) : most a + 3 ≤ most (a + 10) ∧ most (a + 10) ≤ most a + 4 := by unfold most; omega
theorem least_step (a : Int) : least a + 3 ≤ least (a + 10) ∧ least (a + 10) ≤ least a + 4 := by unfold least; omega
theorem most_sum (a b : Int) : most (a + b) = most a + most b ∨ most (a + b) = most a + most b - 1 := by unfold most; omega
theorem least_mono (a b : Int) (h : a ≤ b) : least a ≤ least b := by unfold least; omega
theorem most_mono (a b : Int) (h : a ≤ b) : most a ≤ most b := by unfold most; omega
theorem least_flog (n : Int) (h0 : 1 ≤ n) (h1 : n < 70000000) : flog (n - 1) ≤ least n ∧ least n ≤ flog (n - 1) + 1 := by unfold flog least; omega
theorem most_flog (n : Int) (h0 : 1 ≤ n) (h1 : n < 70000000) : flog n + 1 ≤ most n ∧ most n ≤ flog n + 2 := by unfold flog most; omega
theorem most_least (n : Int) (h0 : 1 ≤ n) (h1 : n ≤ 69897000) : most n ≤ least n + 1 := by unfold least most; omega

/-! ### The contracts -/
theorem ret_two {k : IntKind} {a b c d : Int} (h : a = c) (h' : b = d) : Ending.returned (.tuple #[.int k a, .int k b]) = .returned (.tuple #[.int k c, .int k d]) := by rw [h, h']

set_option maxHeartbeats 400000 in
theorem bounds_any (n : Int) (h0 : 1 ≤ n) (h1 : n < 70000000) (w : World) :
    Calls Try.prog 10 #[.int .i64 n] w fun e w' => e = .returned (.tuple #[.int .i64 (least n), .int .i64 (most n)]) ∧ w' = w := by
  go_enter Try.func10, Try.ntmps10
  go_wp2
  all_goals
    go_ret2
    exact ⟨ret_two (by unfold least; omega) rfl, rfl⟩

set_option maxHeartbeats 400000 in
theorem flog_any (n : Int) (h0 : 0 ≤ n) (h1 : n < 70000000) (w : World) :
    Calls Try.prog 13 #[.int .i64 n] w fun e w' => e = .returned (.int .i64 (flog n)) ∧ w' = w := by
  go_enter Try.func13, Try.ntmps13
  go_wp2
  go_ret
  exact ⟨rfl, rfl⟩

end Go.Proofs.Qxb6619627a.Dig
