/-
  Plain laws over the order of float64 words: the sign of a word, how the order keeps it, what a flipped sign bit does to it. No Go function in sight.
-/
import Derived.Test.Qxb6619627aRows
import Derived.WalkKit
import Derived.WalkLawsBesides
namespace Go.Proofs.Qxb6619627a.Flt
open Ieee

/-- The sign of what a word stands for: 1, -1, or 0 at a zero (and at a NaN). -/
def sgD : Datum → Int
  | .nan _ _ => 0
  | .infinity s => if s then -1 else 1
  | .number s m _ => if m = 0 then 0 else if s then -1 else 1

theorem sgD_cases (d : Datum) : sgD d = -1 ∨ sgD d = 0 ∨ sgD d = 1 := by
  cases d with
  | nan s t => exact Or.inr (Or.inl rfl)
  | infinity s => cases s <;> simp [sgD]
  | number s m i =>
    cases s <;> by_cases h : m = 0 <;> simp [sgD, h]

theorem shl_pos (m k : Nat) (h : m ≠ 0) : 0 < m <<< k := by
  rw [Nat.shiftLeft_eq]
  exact Nat.mul_pos (Nat.pos_of_ne_zero h) (Nat.two_pow_pos k)

/-- The sign of 'signed'. -/
theorem signed_cases (s : Bool) (m k : Nat) (i : Int) :
    (sgD (.number s m i) = 0 ∧ signed s m k = 0) ∨ (sgD (.number s m i) = 1 ∧ 0 < signed s m k) ∨ (sgD (.number s m i) = -1 ∧ signed s m k < 0) := by
  by_cases h : m = 0
  · subst h
    exact Or.inl ⟨rfl, by cases s <;> simp [signed]⟩
  · have hp := shl_pos m k h
    have pos : 0 < signed false m k := by
      show (0 : Int) < ((m <<< k : Nat) : Int)
      generalize m <<< k = x at hp
      omega
    have neg : signed true m k < 0 := by
      show -((m <<< k : Nat) : Int) < 0
      generalize m <<< k = x at hp
      omega
    cases s
    · exact Or.inr (Or.inl ⟨by simp [sgD, h], pos⟩)
    · exact Or.inr (Or.inr ⟨by simp [sgD, h], neg⟩)

def isNan : Datum → Bool
  | .nan _ _ => true
  | _ => false

theorem cmp_lt (a b : Int) (h : a < b) : compare a b = .lt := by
  rw [Int.compare_eq_lt]; exact h
theorem cmp_gt (a b : Int) (h : b < a) : compare a b = .gt := by
  rw [Int.compare_eq_gt]; exact h
theorem cmp_eq (a b : Int) (h : a = b) : compare a b = .eq := by
  rw [Int.compare_eq_eq]; exact h

theorem order_zero (d : Datum) (p : Int) (h : isNan d = false) : d.order (.number false 0 p) = some (compare (sgD d) 0) := by
  cases d with
  | nan s t => simp [isNan] at h
  | infinity s => cases s <;> rfl
  | number s m i =>
    have hz : ∀ k, signed false 0 k = 0 := fun k => by simp [signed]
    simp only [Datum.order, hz]
    rcases signed_cases s m (i - min i p).toNat i with ⟨a, b⟩ | ⟨a, b⟩ | ⟨a, b⟩
    · rw [a, b]
    · rw [a, cmp_gt _ _ b]; rfl
    · rw [a, cmp_lt _ _ b]; rfl

theorem order_mono (a b : Datum) (h : a.order b = some .lt ∨ a.order b = some .eq) : isNan a = false ∧ isNan b = false ∧ sgD a ≤ sgD b := by
  cases a with
  | nan s t => simp [Datum.order] at h
  | infinity s =>
    cases b with
    | nan s t => simp [Datum.order] at h
    | infinity t =>
      cases s <;> cases t <;> simp [Datum.order, isNan, sgD] at h ⊢ <;> revert h <;> decide
    | number t n j =>
      cases s
      · simp [Datum.order] at h
      · refine ⟨rfl, rfl, ?_⟩
        rcases sgD_cases (.number t n j) with e | e | e <;> rw [e] <;> decide
  | number s m i =>
    cases b with
    | nan s t => simp [Datum.order] at h
    | infinity t =>
      cases t
      · refine ⟨rfl, rfl, ?_⟩
        rcases sgD_cases (.number s m i) with e | e | e <;> rw [e] <;> decide
      · simp [Datum.order] at h
    | number t n j =>
      refine ⟨rfl, rfl, ?_⟩
      simp only [Datum.order] at h
      have hle : signed s m (i - min i j).toNat ≤ signed t n (j - min i j).toNat := by
        rcases h with h | h
        · have := Int.compare_eq_lt.1 (Option.some.inj h); omega
        · have := Int.compare_eq_eq.1 (Option.some.inj h); omega
      rcases signed_cases s m (i - min i j).toNat i with ⟨a, b⟩ | ⟨a, b⟩ | ⟨a, b⟩ <;>
        rcases signed_cases t n (j - min i j).toNat j with ⟨a', b'⟩ | ⟨a', b'⟩ | ⟨a', b'⟩ <;> omega

theorem sgD_opposite (d : Datum) : sgD d.opposite = - sgD d := by
  cases d with
  | nan s t => rfl
  | infinity s => cases s <;> rfl
  | number s m i => cases s <;> by_cases h : m = 0 <;> simp [sgD, Datum.opposite, h]

theorem isNan_opposite (d : Datum) : isNan d.opposite = isNan d := by cases d <;> rfl

theorem read_neg (b : Nat) : double.read (b ^^^ 2 ^ 63) = (double.read b).opposite := by
  have h1 : (b ^^^ 2 ^ 63) % 2 ^ 63 = b % 2 ^ 63 := by
    rw [Nat.xor_mod_two_pow]; simp
  have h2 : (b ^^^ 2 ^ 63) / 2 ^ 63 = b / 2 ^ 63 ^^^ 1 := by
    rw [Nat.xor_div_two_pow]
  have h3 : (b / 2 ^ 63 ^^^ 1) % 2 = 1 - b / 2 ^ 63 % 2 := by
    have e : (b / 2 ^ 63 ^^^ 1) % 2 ^ 1 = (b / 2 ^ 63 % 2 ^ 1) ^^^ (1 % 2 ^ 1) := Nat.xor_mod_two_pow
    rw [Nat.pow_one] at e
    rw [e]
    rcases Nat.mod_two_eq_zero_or_one (b / 2 ^ 63) with z | z <;> rw [z] <;> rfl
  have sw : double.signWeight = 2 ^ 63 := rfl
  have sg : ((1 - b / 2 ^ 63 % 2) == 1) = !((b / 2 ^ 63 % 2) == 1) := by
    rcases Nat.mod_two_eq_zero_or_one (b / 2 ^ 63) with z | z <;> rw [z] <;> rfl
  unfold Format.read
  rw [sw, h1, h2, h3, sg]
  generalize (b / 2 ^ 63 % 2 == 1) = q
  generalize b % 2 ^ 63 = r
  dsimp only
  split
  · rfl
  · split
    · rfl
    · split <;> rfl

end Go.Proofs.Qxb6619627a.Flt
