/-
  The walks of 'FnEscapedRuneMatchesDigitSearch' (function 3), a case each.
-/
import Derived.Test.Qxb6619895aCopy
import Derived.Test.Qxb6619895aModel
namespace Go.Proofs.Qxb6619895a.Hex
open Go.RowKit

set_option maxHeartbeats 400000 in
theorem match_nil (w : World) :
    Calls Try.prog 3 #[.slice none 0 0] w fun e w' => e = .returned (.bool true) ∧ Below w.heap.size w w' := by
  go_enter Try.func3, Try.ntmps3
  go_wp2
  go_ret
  exact ⟨rfl, Below.refl _ _⟩

set_option maxHeartbeats 400000 in
theorem match_long (x : Addr) (len cap : Nat) (h : 1048576 < len) (w : World) :
    Calls Try.prog 3 #[.slice (some x) len cap] w fun e w' => e = .returned (.bool true) ∧ Below w.heap.size w w' := by
  go_enter Try.func3, Try.ntmps3
  go_wp2
  go_ret
  exact ⟨rfl, Below.refl _ _⟩

theorem ret_bool {a : Bool} (h : a = true) : Ending.returned (.bool a) = .returned (.bool true) := by rw [h]

/-- On a row of len bytes that is known, both functions give one value and turn nothing. -/
theorem both (g len : Nat) (c : Nat → Int) (w : World) (hl : len ≤ 9223372036854775807) (hc : ∀ i, i < len → w.cell? ⟨g, i, none⟩ = some (.int .u8 (c i))) (hb : ∀ i, 0 ≤ c i ∧ c i ≤ 255) :
    ∃ v, (Calls Try.prog 6 #[.slice (some ⟨g, 0, none⟩) len len] w fun e w' => e = .returned (.int .i32 v) ∧ w' = w) ∧
      Calls Try.prog 7 #[.slice (some ⟨g, 0, none⟩) len len] w fun e w' => e = .returned (.int .i32 v) ∧ w' = w := by
  by_cases h : len < 6
  · exact ⟨-1, esc_short _ _ _ h w, mod_short _ _ _ h w⟩
  · have hc' : ∀ i, i < 6 → w.cell? ⟨g, 0 + i, none⟩ = some (.int .u8 (c i)) := fun i hi => by rw [Nat.zero_add]; exact hc i (by omega)
    exact ⟨escv c, esc_any g 0 len len c (by omega) (Nat.le_refl _) hl w hc' hb, mod_any g 0 len len c (by omega) hl w hc'⟩

set_option maxHeartbeats 400000 in
theorem match_all (x : Addr) (len cap : Nat) (zs : List Int) (h : len ≤ 1048576) (w : World) (hl : len ≤ zs.length)
    (hc : ∀ i, i < zs.length → w.cell? (x.add i) = some (.int .u8 (zs.getD i 0)))
    (hb : ∀ i, 0 ≤ zs.getD i 0 ∧ zs.getD i 0 ≤ 255) :
    Calls Try.prog 3 #[.slice (some x) len cap] w fun e w' => e = .returned (.bool true) ∧ Below w.heap.size w w' := by
  obtain ⟨w1, hcp, hB, hsz, hcell⟩ := copy_ok x len cap zs w hl hc
  have hmk := run_make_row' (P := Try.prog) 22 5 (.int .u8 0) 1 Try.underlying22 info5 rfl .i64 .i64 len (by omega) (by omega) w
  obtain ⟨v, h6, h7⟩ := both w.heap.size len (fun i => zs.getD i 0) w1 (by omega) hcell hb
  have H6 : Hid (Calls Try.prog 6 #[.slice (some ⟨w.heap.size, 0, none⟩) len len] w1 fun e w' => e = .returned (.int .i32 v) ∧ w' = w1) := h6
  have H7 : Hid (Calls Try.prog 7 #[.slice (some ⟨w.heap.size, 0, none⟩) len len] w1 fun e w' => e = .returned (.int .i32 v) ∧ w' = w1) := h7
  have HB : Hid (Below w.heap.size w w1) := hB
  clear hcell hB hsz hc h6 h7 hb
  go_enter Try.func3, Try.ntmps3
  go_wp2_with (first | (go_at_call 5; go_in) | fail)
  refine H6.out.mono ?_
  rintro e w' ⟨rfl, rfl⟩
  go_wp2_with fail
  refine H7.out.mono ?_
  rintro e w' ⟨rfl, rfl⟩
  go_wp2_with fail
  go_ret
  exact ⟨ret_bool (by simp), HB.out⟩

end Go.Proofs.Qxb6619895a.Hex
