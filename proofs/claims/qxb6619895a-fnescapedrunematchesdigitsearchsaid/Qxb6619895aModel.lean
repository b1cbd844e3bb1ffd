/-
  The contract of 'zzEscapeModel' (function 7): it gives what 'escapedRune' gives.
-/
import Derived.Test.Qxb6619895aEsc
import Derived.Test.Qxb6619895aDig
namespace Go.Proofs.Qxb6619895a.Hex
open Go.RowKit

def wt : Nat → Int
  | 0 => 4096
  | 1 => 256
  | 2 => 16
  | 3 => 1
  | _ => 0

def tot (c : Nat → Int) : Nat → Int
  | 0 => 0
  | k + 1 => tot c k + hexv (c (k + 2)) * wt k

theorem tot_last (c : Nat → Int) : tot c 3 + hexv (c 5) = tot c 4 := by
  show _ = tot c 3 + hexv (c 5) * 1
  omega

theorem tot_four (c : Nat → Int) : tot c 4 = accv c 4 := by
  simp only [tot, accv, wt]; omega

set_option maxHeartbeats 400000 in
theorem mod_short (a : Option Addr) (len cap : Nat) (h : len < 6) (w : World) :
    Calls Try.prog 7 #[.slice a len cap] w fun e w' => e = .returned (.int .i32 (-1)) ∧ w' = w := by
  go_enter Try.func7, Try.ntmps7
  go_wp2
  go_ret
  exact ⟨rfl, rfl⟩

set_option maxHeartbeats 400000 in
theorem mod_not0 (b off len cap : Nat) (c : Nat → Int) (h : 6 ≤ len) (hl : len ≤ 9223372036854775807) (w : World) (hc : ∀ i, i < 6 → w.cell? ⟨b, off + i, none⟩ = some (.int .u8 (c i))) (h0 : (c 0 != 92) = true) :
    Calls Try.prog 7 #[.slice (some ⟨b, off, none⟩) len cap] w fun e w' => e = .returned (.int .i32 (-1)) ∧ w' = w := by
  have c0 := hc 0 (by omega)
  clear hc
  simp only [Nat.add_zero] at c0
  go_enter Try.func7, Try.ntmps7
  go_wp2
  go_ret
  exact ⟨rfl, rfl⟩

set_option maxHeartbeats 400000 in
theorem mod_not1 (b off len cap : Nat) (c : Nat → Int) (h : 6 ≤ len) (hl : len ≤ 9223372036854775807) (w : World) (hc : ∀ i, i < 6 → w.cell? ⟨b, off + i, none⟩ = some (.int .u8 (c i))) (h0 : (c 0 != 92) = false) (h1 : (c 1 != 117) = true) :
    Calls Try.prog 7 #[.slice (some ⟨b, off, none⟩) len cap] w fun e w' => e = .returned (.int .i32 (-1)) ∧ w' = w := by
  have c0 := hc 0 (by omega)
  have c1 := hc 1 (by omega)
  clear hc
  simp only [Nat.add_zero] at c0
  go_enter Try.func7, Try.ntmps7
  go_wp2
  go_ret
  exact ⟨rfl, rfl⟩

theorem tot_bd (c : Nat → Int) (k : Nat) (hk : k < 4) (h : okv c k) : 0 ≤ tot c k ∧ tot c k ≤ 65535 := by
  have b : ∀ j, hexv (c (j + 2)) ≤ 15 := fun j => (hexv_bd _).2
  have b0 := b 0; have b1 := b 1; have b2 := b 2
  match k, hk, h with
  | 0, _, _ => simp only [tot]; omega
  | 1, _, h => have a0 := h 0 (by omega); simp only [tot, wt] at *; omega
  | 2, _, h => have a0 := h 0 (by omega); have a1 := h 1 (by omega); simp only [tot, wt] at *; omega
  | 3, _, h => have a0 := h 0 (by omega); have a1 := h 1 (by omega); have a2 := h 2 (by omega); simp only [tot, wt] at *; omega

set_option maxHeartbeats 1000000 in
theorem mod_loop (b off len cap : Nat) (c : Nat → Int) (h : 6 ≤ len) (hl : len ≤ 9223372036854775807) (w : World) (hc : ∀ i, i < 6 → w.cell? ⟨b, off + i, none⟩ = some (.int .u8 (c i))) (h0 : (c 0 != 92) = false) (h1 : (c 1 != 117) = false) :
    Calls Try.prog 7 #[.slice (some ⟨b, off, none⟩) len cap] w fun e w' => (okv c 4 → e = .returned (.int .i32 (accv c 4))) ∧ (¬ okv c 4 → e = .returned (.int .i32 (-1))) ∧ w' = w := by
  have c0 := hc 0 (by omega)
  have c1 := hc 1 (by omega)
  simp only [Nat.add_zero] at c0
  go_enter Try.func7, Try.ntmps7
  go_wp2
  clear c0 c1 h0 h1
  go_loop [3, 4, 5] (fun t q i => ∃ k : Nat, k ≤ 4 ∧ i = .int .i64 (k + 2) ∧ t = .int .i32 (tot c k) ∧ q = .int .i32 (wt k) ∧ okv c k) (fun _ _ i => 6 - (intOf i).toNat)
  case atStart => exact ⟨0, Nat.zero_le _, rfl, rfl, rfl, fun j hj => absurd hj (Nat.not_lt_zero j)⟩
  case round =>
    obtain ⟨k, hk, rfl, rfl, rfl, hok⟩ := hrel
    by_cases hlt : k < 4
    · have hs : k = 0 ∨ k = 1 ∨ k = 2 ∨ k = 3 := by omega
      rcases hs with rfl | rfl | rfl | rfl
      · have hcell : w.cell? ⟨b, off + 2, none⟩ = some (.int .u8 (c 2)) := hc 2 (by omega)
        obtain ⟨v0, v1⟩ := hexv_bd (c 2)
        obtain ⟨t0, t1⟩ := tot_bd c 0 hlt hok
        have HK : Hid (okv c 0) := hok
        clear hok hc
        rw [show wt 0 = 4096 from rfl]
        by_cases hd : 0 ≤ hexv (c 2)
        · go_wp2_with (go_at_call 10; refine (dig_any _ _).mono ?_; rintro e w' ⟨rfl, rfl⟩)
          go_round
          case rel => exact ⟨1, by omega, rfl, rfl, rfl, okv_succ c 0 HK.out hd⟩
          case measure => simp [intOf]
        · have hd' : hexv (c 2) < 0 := by omega
          go_wp2_with (go_at_call 10; refine (dig_any _ _).mono ?_; rintro e w' ⟨rfl, rfl⟩)
          go_ret
          exact ⟨fun ho => absurd (ho 0 hlt) (by simp only [Nat.reduceAdd]; omega), fun _ => rfl, rfl⟩
      · have hcell : w.cell? ⟨b, off + 3, none⟩ = some (.int .u8 (c 3)) := hc 3 (by omega)
        obtain ⟨v0, v1⟩ := hexv_bd (c 3)
        obtain ⟨t0, t1⟩ := tot_bd c 1 hlt hok
        have HK : Hid (okv c 1) := hok
        clear hok hc
        rw [show wt 1 = 256 from rfl]
        by_cases hd : 0 ≤ hexv (c 3)
        · go_wp2_with (go_at_call 10; refine (dig_any _ _).mono ?_; rintro e w' ⟨rfl, rfl⟩)
          go_round
          case rel => exact ⟨2, by omega, rfl, rfl, rfl, okv_succ c 1 HK.out hd⟩
          case measure => simp [intOf]
        · have hd' : hexv (c 3) < 0 := by omega
          go_wp2_with (go_at_call 10; refine (dig_any _ _).mono ?_; rintro e w' ⟨rfl, rfl⟩)
          go_ret
          exact ⟨fun ho => absurd (ho 1 hlt) (by simp only [Nat.reduceAdd]; omega), fun _ => rfl, rfl⟩
      · have hcell : w.cell? ⟨b, off + 4, none⟩ = some (.int .u8 (c 4)) := hc 4 (by omega)
        obtain ⟨v0, v1⟩ := hexv_bd (c 4)
        obtain ⟨t0, t1⟩ := tot_bd c 2 hlt hok
        have HK : Hid (okv c 2) := hok
        clear hok hc
        rw [show wt 2 = 16 from rfl]
        by_cases hd : 0 ≤ hexv (c 4)
        · go_wp2_with (go_at_call 10; refine (dig_any _ _).mono ?_; rintro e w' ⟨rfl, rfl⟩)
          go_round
          case rel => exact ⟨3, by omega, rfl, rfl, rfl, okv_succ c 2 HK.out hd⟩
          case measure => simp [intOf]
        · have hd' : hexv (c 4) < 0 := by omega
          go_wp2_with (go_at_call 10; refine (dig_any _ _).mono ?_; rintro e w' ⟨rfl, rfl⟩)
          go_ret
          exact ⟨fun ho => absurd (ho 2 hlt) (by simp only [Nat.reduceAdd]; omega), fun _ => rfl, rfl⟩
      · have hcell : w.cell? ⟨b, off + 5, none⟩ = some (.int .u8 (c 5)) := hc 5 (by omega)
        obtain ⟨v0, v1⟩ := hexv_bd (c 5)
        obtain ⟨t0, t1⟩ := tot_bd c 3 hlt hok
        have HK : Hid (okv c 3) := hok
        clear hok hc
        rw [show wt 3 = 1 from rfl]
        by_cases hd : 0 ≤ hexv (c 5)
        · go_wp2_with (go_at_call 10; refine (dig_any _ _).mono ?_; rintro e w' ⟨rfl, rfl⟩)
          go_round
          case rel => exact ⟨4, by omega, rfl, by rw [tot_last], rfl, okv_succ c 3 HK.out hd⟩
          case measure => simp [intOf]
        · have hd' : hexv (c 5) < 0 := by omega
          go_wp2_with (go_at_call 10; refine (dig_any _ _).mono ?_; rintro e w' ⟨rfl, rfl⟩)
          go_ret
          exact ⟨fun ho => absurd (ho 3 hlt) (by simp only [Nat.reduceAdd]; omega), fun _ => rfl, rfl⟩
    · obtain rfl : k = 4 := by omega
      have HK : Hid (okv c 4) := hok
      clear hc hok
      go_wp2
      go_ret
      exact ⟨fun _ => ret_int (tot_four c), fun ho => absurd HK.out ho, rfl⟩

theorem mod_any (b off len cap : Nat) (c : Nat → Int) (h : 6 ≤ len) (hl : len ≤ 9223372036854775807) (w : World) (hc : ∀ i, i < 6 → w.cell? ⟨b, off + i, none⟩ = some (.int .u8 (c i))) :
    Calls Try.prog 7 #[.slice (some ⟨b, off, none⟩) len cap] w fun e w' => e = .returned (.int .i32 (escv c)) ∧ w' = w := by
  by_cases h0 : c 0 = 92
  · by_cases h1 : c 1 = 117
    · refine (mod_loop b off len cap c h hl w hc (by simp [h0]) (by simp [h1])).mono ?_
      rintro e w' ⟨e1, e2, e3⟩
      refine ⟨?_, e3⟩
      by_cases ho : okv c 4
      · rw [e1 ho, escv, if_pos ⟨h0, h1, (okv_four c).1 ho⟩]
      · rw [e2 ho, escv, if_neg (fun k => ho ((okv_four c).2 k.2.2))]
    · refine (mod_not1 b off len cap c h hl w hc (by simp [h0]) (by simp [h1])).mono ?_
      rintro e w' ⟨e1, e2⟩
      exact ⟨by rw [e1, escv, if_neg (fun k => h1 k.2.1)], e2⟩
  · refine (mod_not0 b off len cap c h hl w hc (by simp [h0])).mono ?_
    rintro e w' ⟨e1, e2⟩
    exact ⟨by rw [e1, escv, if_neg (fun k => h0 k.1)], e2⟩

end Go.Proofs.Qxb6619895a.Hex
