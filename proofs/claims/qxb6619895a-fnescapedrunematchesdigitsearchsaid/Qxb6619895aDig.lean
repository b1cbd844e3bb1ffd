/-
  The contract of 'zzDigitBySearch' (function 10): the search of the two alphabets gives the digit's value.
-/
import Derived.Test.Qxb6619895aHex
namespace Go.Proofs.Qxb6619895a.Hex
open Go.RowKit

/-- The digit of value j, in either case. -/
def low (j : Nat) : Int := if j < 10 then 48 + j else 87 + j
def upp (j : Nat) : Int := if j < 10 then 48 + j else 55 + j

theorem hexv_at (c : Int) (j : Nat) (hj : j < 16) (h : low j = c ∨ upp j = c) : hexv c = j := by
  unfold low upp at h
  unfold hexv
  by_cases h9 : j < 10
  · simp only [h9, if_true] at h
    rw [if_pos (by omega)]; omega
  · simp only [h9, if_false] at h
    rw [if_neg (by omega)]
    rcases h with h | h
    · rw [if_pos (by omega)]; omega
    · rw [if_neg (by omega), if_pos (by omega)]; omega

theorem hexv_nowhere (c : Int) (h : ∀ j, j < 16 → low j ≠ c ∧ upp j ≠ c) : hexv c = -1 := by
  refine hexv_none c ?_ ?_ ?_
  · rintro ⟨a, b⟩
    have := (h (c - 48).toNat (by omega)).1
    unfold low at this
    rw [if_pos (by omega)] at this
    omega
  · rintro ⟨a, b⟩
    have := (h (c - 87).toNat (by omega)).1
    unfold low at this
    rw [if_neg (by omega)] at this
    omega
  · rintro ⟨a, b⟩
    have := (h (c - 55).toNat (by omega)).2
    unfold upp at this
    rw [if_neg (by omega)] at this
    omega

theorem no_succ (c : Int) (k : Nat) (h : ∀ j, j < k → low j ≠ c ∧ upp j ≠ c) (e : low k ≠ c ∧ upp k ≠ c) : ∀ j, j < k + 1 → low j ≠ c ∧ upp j ≠ c := by
  intro j hj
  by_cases q : j = k
  · subst q; exact e
  · exact h j (by omega)

theorem low_at (k : Nat) (h : k < 16) : ((({ data := #[48, 49, 50, 51, 52, 53, 54, 55, 56, 57, 97, 98, 99, 100, 101, 102] } : ByteArray)[k]'h).toNat : Int) = low k := by
  have e : ∀ j : Fin 16, ((({ data := #[48, 49, 50, 51, 52, 53, 54, 55, 56, 57, 97, 98, 99, 100, 101, 102] } : ByteArray)[j.val]'j.isLt).toNat : Int) = low j.val := by decide
  exact e ⟨k, h⟩
theorem upp_at (k : Nat) (h : k < 16) : ((({ data := #[48, 49, 50, 51, 52, 53, 54, 55, 56, 57, 65, 66, 67, 68, 69, 70] } : ByteArray)[k]'h).toNat : Int) = upp k := by
  have e : ∀ j : Fin 16, ((({ data := #[48, 49, 50, 51, 52, 53, 54, 55, 56, 57, 65, 66, 67, 68, 69, 70] } : ByteArray)[j.val]'j.isLt).toNat : Int) = upp j.val := by decide
  exact e ⟨k, h⟩

set_option maxHeartbeats 400000 in
theorem dig_any (c : Int) (w : World) :
    Calls Try.prog 10 #[.int .u8 c] w fun e w' => e = .returned (.int .i32 (hexv c)) ∧ w' = w := by
  go_enter Try.func10, Try.ntmps10
  go_wp2
  go_loop [3] (fun d => ∃ k : Nat, k ≤ 16 ∧ d = .int .i64 k ∧ ∀ j, j < k → low j ≠ c ∧ upp j ≠ c) (fun d => 16 - (intOf d).toNat)
  case atStart => exact ⟨0, Nat.zero_le _, rfl, fun j hj => absurd hj (Nat.not_lt_zero j)⟩
  case round =>
    obtain ⟨k, hk, rfl, hno⟩ := hrel
    have HN : Hid (∀ j, j < k → low j ≠ c ∧ upp j ≠ c) := hno
    clear hno
    by_cases hlt : k < 16
    · have hl := low_at k hlt
      have hu := upp_at k hlt
      by_cases e1 : low k = c
      · have E : Hid (hexv c = k) := hexv_at c k hlt (Or.inl e1)
        have t : (low k == c) = true := by simp [e1]
        clear e1
        go_wp2
        go_ret
        exact ⟨ret_int E.out.symm, rfl⟩
      · have t : (low k == c) = false := by simp [e1]
        by_cases e2 : upp k = c
        · have E : Hid (hexv c = k) := hexv_at c k hlt (Or.inr e2)
          have t' : (upp k == c) = true := by simp [e2]
          clear e1 e2
          go_wp2
          go_ret
          exact ⟨ret_int E.out.symm, rfl⟩
        · have t' : (upp k == c) = false := by simp [e2]
          have E : Hid (low k ≠ c ∧ upp k ≠ c) := ⟨e1, e2⟩
          clear e1 e2
          go_wp2
          go_round
          case rel => exact ⟨k + 1, by omega, by go_num, no_succ c k HN.out E.out⟩
          case measure => simp [intOf]; omega
    · obtain rfl : k = 16 := by omega
      have E : Hid (hexv c = -1) := hexv_nowhere c HN.out
      go_wp2
      go_ret
      exact ⟨ret_int E.out.symm, rfl⟩

end Go.Proofs.Qxb6619895a.Hex
