/-
  The contract of 'escapedRune' and 'ZZescapedRune' (functions 9 and 6): what it gives for the first six bytes of a slice.
-/
import Derived.Test.Qxb6619895aHex
namespace Go.Proofs.Qxb6619895a.Hex
open Go.RowKit

/-- The digits from the third byte on, read from the left: k of them. -/
def accv (c : Nat → Int) : Nat → Int
  | 0 => 0
  | k + 1 => accv c k * 16 + hexv (c (k + 2))

/-- Are the k bytes from the third on all hexadecimal digits? -/
def okv (c : Nat → Int) (k : Nat) : Prop := ∀ j, j < k → 0 ≤ hexv (c (j + 2))

theorem okv_succ (c : Nat → Int) (k : Nat) (h : okv c k) (hd : 0 ≤ hexv (c (k + 2))) : okv c (k + 1) := by
  intro j hj
  by_cases e : j = k
  · subst e; exact hd
  · exact h j (by omega)

theorem accv_le (c : Nat → Int) (k : Nat) (hk : k ≤ 4) (h : okv c k) : 0 ≤ accv c k ∧ accv c k ≤ 65535 := by
  have b : ∀ j, hexv (c (j + 2)) ≤ 15 := fun j => (hexv_bd _).2
  have b0 := b 0; have b1 := b 1; have b2 := b 2; have b3 := b 3
  match k, hk, h with
  | 0, _, _ => simp only [accv]; omega
  | 1, _, h => have a0 := h 0 (by omega); simp only [accv] at *; omega
  | 2, _, h => have a0 := h 0 (by omega); have a1 := h 1 (by omega); simp only [accv] at *; omega
  | 3, _, h => have a0 := h 0 (by omega); have a1 := h 1 (by omega); have a2 := h 2 (by omega); simp only [accv] at *; omega
  | 4, _, h => have a0 := h 0 (by omega); have a1 := h 1 (by omega); have a2 := h 2 (by omega); have a3 := h 3 (by omega); simp only [accv] at *; omega

theorem or16 (x v : Int) (h0 : 0 ≤ x) (h1 : x ≤ 65535) (v0 : 0 ≤ v) (v1 : v ≤ 15) : bits .or .i32 (x * 16) v = x * 16 + v := by
  obtain ⟨n, rfl⟩ := Int.eq_ofNat_of_zero_le h0
  obtain ⟨m, rfl⟩ := Int.eq_ofNat_of_zero_le v0
  have e : (n * 16) ||| m = n * 16 + m := by
    have := Nat.shiftLeft_add_eq_or_of_lt (a := n) (i := 4) (b := m) (by omega)
    rw [Nat.shiftLeft_eq, show (2 : Nat) ^ 4 = 16 from rfl] at this
    omega
  have e1 : BitVec.ofInt 32 ((n : Int) * 16) = BitVec.ofNat 32 (n * 16) := by
    rw [← BitVec.ofInt_natCast]; congr 1
  have e2 : BitVec.ofInt 32 (m : Int) = BitVec.ofNat 32 m := BitVec.ofInt_natCast 32 m
  show IntKind.i32.wrap (((BitVec.ofInt 32 ((n : Int) * 16)) ||| (BitVec.ofInt 32 (m : Int))).toNat : Int) = _
  rw [e1, e2, BitVec.toNat_or, BitVec.toNat_ofNat, BitVec.toNat_ofNat, Nat.mod_eq_of_lt (by omega), Nat.mod_eq_of_lt (by omega), e]
  simp only [IntKind.wrap]
  simp [IntKind.bits, IntKind.signed]
  omega

set_option maxHeartbeats 400000 in
theorem esc_short (a : Option Addr) (len cap : Nat) (h : len < 6) (w : World) :
    Calls Try.prog 6 #[.slice a len cap] w fun e w' => e = .returned (.int .i32 (-1)) ∧ w' = w := by
  go_enter Try.func6, Try.ntmps6
  go_wp2
  go_ret
  exact ⟨rfl, rfl⟩

set_option maxHeartbeats 400000 in
theorem esc_not0 (b off len cap : Nat) (c : Nat → Int) (h : 6 ≤ len) (hl : len ≤ 9223372036854775807) (w : World) (hc : ∀ i, i < 6 → w.cell? ⟨b, off + i, none⟩ = some (.int .u8 (c i))) (h0 : (c 0 != 92) = true) :
    Calls Try.prog 6 #[.slice (some ⟨b, off, none⟩) len cap] w fun e w' => e = .returned (.int .i32 (-1)) ∧ w' = w := by
  have c0 := hc 0 (by omega)
  clear hc
  simp only [Nat.add_zero] at c0
  go_enter Try.func6, Try.ntmps6
  go_wp2
  go_ret
  exact ⟨rfl, rfl⟩

set_option maxHeartbeats 400000 in
theorem esc_not1 (b off len cap : Nat) (c : Nat → Int) (h : 6 ≤ len) (hl : len ≤ 9223372036854775807) (w : World) (hc : ∀ i, i < 6 → w.cell? ⟨b, off + i, none⟩ = some (.int .u8 (c i))) (h0 : (c 0 != 92) = false) (h1 : (c 1 != 117) = true) :
    Calls Try.prog 6 #[.slice (some ⟨b, off, none⟩) len cap] w fun e w' => e = .returned (.int .i32 (-1)) ∧ w' = w := by
  have c0 := hc 0 (by omega)
  have c1 := hc 1 (by omega)
  clear hc
  simp only [Nat.add_zero] at c0
  go_enter Try.func6, Try.ntmps6
  go_wp2
  go_ret
  exact ⟨rfl, rfl⟩

set_option maxHeartbeats 400000 in
theorem esc_loop (b off len cap : Nat) (c : Nat → Int) (h : 6 ≤ len) (hlc : len ≤ cap) (hl : cap ≤ 9223372036854775807) (w : World) (hc : ∀ i, i < 6 → w.cell? ⟨b, off + i, none⟩ = some (.int .u8 (c i))) (hb : ∀ i, 0 ≤ c i ∧ c i ≤ 255) (h0 : (c 0 != 92) = false) (h1 : (c 1 != 117) = false) :
    Calls Try.prog 6 #[.slice (some ⟨b, off, none⟩) len cap] w fun e w' => (okv c 4 → e = .returned (.int .i32 (accv c 4))) ∧ (¬ okv c 4 → e = .returned (.int .i32 (-1))) ∧ w' = w := by
  have c0 := hc 0 (by omega)
  have c1 := hc 1 (by omega)
  simp only [Nat.add_zero] at c0
  go_enter Try.func6, Try.ntmps6
  go_wp2
  clear c0 c1 h0 h1
  go_loop [3, 25] (fun r i => ∃ k : Nat, k ≤ 4 ∧ i = .int .i64 k ∧ r = .int .i32 (accv c k) ∧ okv c k) (fun _ i => 4 - (intOf i).toNat)
  case atStart => exact ⟨0, Nat.zero_le _, rfl, rfl, fun j hj => absurd hj (Nat.not_lt_zero j)⟩
  case round =>
    obtain ⟨k, hk, rfl, rfl, hok⟩ := hrel
    obtain ⟨l0, l1⟩ := accv_le c k hk hok
    have HK : Hid (okv c k) := hok
    clear hok
    by_cases hlt : k < 4
    · have hcell : w.cell? ⟨b, off + 2 + k, none⟩ = some (.int .u8 (c (k + 2))) := by
        rw [show off + 2 + k = off + (k + 2) by omega]; exact hc (k + 2) (by omega)
      obtain ⟨b0, b1⟩ := hb (k + 2)
      obtain ⟨v0, v1⟩ := hexv_bd (c (k + 2))
      clear hc hb
      by_cases hd : 0 ≤ hexv (c (k + 2))
      · have hor := or16 (accv c k) (hexv (c (k + 2))) l0 l1 hd v1
        go_wp2_with (go_at_call 11; refine (hex_any _ b0 b1 _).mono ?_; rintro e w' ⟨rfl, rfl⟩)
        go_round
        case rel => exact ⟨k + 1, by omega, by go_num, rfl, okv_succ c k HK.out hd⟩
        case measure => simp [intOf]; omega
      · have hd' : hexv (c (k + 2)) < 0 := by omega
        go_wp2_with (go_at_call 11; refine (hex_any _ b0 b1 _).mono ?_; rintro e w' ⟨rfl, rfl⟩)
        go_ret
        exact ⟨fun ho => absurd (ho k hlt) (by omega), fun _ => rfl, rfl⟩
    · obtain rfl : k = 4 := by omega
      clear hc hb
      go_wp2
      go_ret
      exact ⟨fun _ => rfl, fun ho => absurd HK.out ho, rfl⟩

/-- What six bytes open with: the value of the escape, or -1. -/
def escv (c : Nat → Int) : Int :=
  if c 0 = 92 ∧ c 1 = 117 ∧ 0 ≤ hexv (c 2) ∧ 0 ≤ hexv (c 3) ∧ 0 ≤ hexv (c 4) ∧ 0 ≤ hexv (c 5) then accv c 4 else -1

theorem okv_four (c : Nat → Int) : okv c 4 ↔ 0 ≤ hexv (c 2) ∧ 0 ≤ hexv (c 3) ∧ 0 ≤ hexv (c 4) ∧ 0 ≤ hexv (c 5) := by
  constructor
  · intro h
    exact ⟨h 0 (by omega), h 1 (by omega), h 2 (by omega), h 3 (by omega)⟩
  · rintro ⟨a0, a1, a2, a3⟩ j hj
    match j, hj with
    | 0, _ => exact a0
    | 1, _ => exact a1
    | 2, _ => exact a2
    | 3, _ => exact a3

theorem escv_bd (c : Nat → Int) : -1 ≤ escv c ∧ escv c ≤ 65535 := by
  unfold escv
  split
  · rename_i h
    have := accv_le c 4 (by omega) ((okv_four c).2 h.2.2)
    omega
  · omega

/-- Only the first six bytes bear on it. -/
theorem escv_congr (c d : Nat → Int) (h : ∀ i, i < 6 → c i = d i) : escv c = escv d := by
  have h0 := h 0 (by omega); have h1 := h 1 (by omega); have h2 := h 2 (by omega); have h3 := h 3 (by omega); have h4 := h 4 (by omega); have h5 := h 5 (by omega)
  simp only [escv, accv, h0, h1, h2, h3, h4, h5]

theorem esc_any (b off len cap : Nat) (c : Nat → Int) (h : 6 ≤ len) (hlc : len ≤ cap) (hl : cap ≤ 9223372036854775807) (w : World) (hc : ∀ i, i < 6 → w.cell? ⟨b, off + i, none⟩ = some (.int .u8 (c i))) (hb : ∀ i, 0 ≤ c i ∧ c i ≤ 255) :
    Calls Try.prog 6 #[.slice (some ⟨b, off, none⟩) len cap] w fun e w' => e = .returned (.int .i32 (escv c)) ∧ w' = w := by
  by_cases h0 : c 0 = 92
  · by_cases h1 : c 1 = 117
    · refine (esc_loop b off len cap c h hlc hl w hc hb (by simp [h0]) (by simp [h1])).mono ?_
      rintro e w' ⟨e1, e2, e3⟩
      refine ⟨?_, e3⟩
      by_cases ho : okv c 4
      · rw [e1 ho, escv, if_pos ⟨h0, h1, (okv_four c).1 ho⟩]
      · rw [e2 ho, escv, if_neg (fun k => ho ((okv_four c).2 k.2.2))]
    · refine (esc_not1 b off len cap c h (by omega) w hc (by simp [h0]) (by simp [h1])).mono ?_
      rintro e w' ⟨e1, e2⟩
      exact ⟨by rw [e1, escv, if_neg (fun k => h1 k.2.1)], e2⟩
  · refine (esc_not0 b off len cap c h (by omega) w hc (by simp [h0])).mono ?_
    rintro e w' ⟨e1, e2⟩
    exact ⟨by rw [e1, escv, if_neg (fun k => h0 k.1)], e2⟩

end Go.Proofs.Qxb6619895a.Hex
