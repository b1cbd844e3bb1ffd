/-
  The contracts of 'magnitude' and 'ZZmagnitude' (functions 14 and 9), and the plain laws over sizes.
-/
import Derived.Test.Qxb6619627aRows
import Derived.WalkKit
import Derived.WalkSpells
namespace Go.Proofs.Qxb6619627a
open Go.RowKit

theorem ret_int {k : IntKind} {a b : Int} (h : a = b) : Ending.returned (.int k a) = .returned (.int k b) := by rw [h]

theorem ret_bool {a : Bool} (h : a = true) : Ending.returned (.bool a) = .returned (.bool true) := by rw [h]

theorem wrap_neg (c : Int) (h0 : c < 0) (h1 : -9223372036854775808 ≤ c) : IntKind.u64.wrap (-IntKind.u64.wrap c) = -c := by
  simp only [IntKind.wrap]
  simp [IntKind.bits, IntKind.signed]
  omega

/-- Go's '^x' on an int64. -/
theorem compl64 (x : Int) (h0 : -9223372036854775808 ≤ x) (h1 : x ≤ 9223372036854775807) : bits .xor .i64 (-1) x = -x - 1 := by
  have e : (BitVec.ofInt 64 (-1)) ^^^ (BitVec.ofInt 64 x) = ~~~ (BitVec.ofInt 64 x) := by
    rw [show BitVec.ofInt 64 (-1) = BitVec.allOnes 64 from by decide, BitVec.xor_comm, BitVec.xor_allOnes]
  have e2 : (~~~ (BitVec.ofInt 64 x)).toNat = 2 ^ 64 - 1 - (x % 18446744073709551616).toNat := by
    rw [BitVec.toNat_not, BitVec.toNat_ofInt]; rfl
  show IntKind.i64.wrap (((BitVec.ofInt 64 (-1)) ^^^ (BitVec.ofInt 64 x)).toNat : Int) = _
  rw [e, e2]
  simp only [IntKind.wrap]
  simp [IntKind.bits, IntKind.signed]
  omega

set_option maxHeartbeats 400000 in
theorem mag_pos (c : Int) (h0 : 0 ≤ c) (h1 : c ≤ 9223372036854775807) (w : World) :
    Calls Try.prog 9 #[.int .i64 c] w fun e w' => e = .returned (.int .u64 c) ∧ w' = w := by
  go_enter Try.func9, Try.ntmps9
  go_wp2
  go_ret
  exact ⟨rfl, rfl⟩

set_option maxHeartbeats 400000 in
theorem mag_neg (c : Int) (h0 : c < 0) (h1 : -9223372036854775808 ≤ c) (w : World) :
    Calls Try.prog 9 #[.int .i64 c] w fun e w' => e = .returned (.int .u64 (-c)) ∧ w' = w := by
  go_enter Try.func9, Try.ntmps9
  go_wp2
  go_ret
  exact ⟨ret_int (wrap_neg c h0 h1), rfl⟩

end Go.Proofs.Qxb6619627a
