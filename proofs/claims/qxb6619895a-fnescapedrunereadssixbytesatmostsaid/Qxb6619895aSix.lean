/-
  The walks of 'FnEscapedRuneReadsSixBytesAtMost' (function 4), a case each.
-/
import Derived.Test.Qxb6619895aJoin
namespace Go.Proofs.Qxb6619895a.Hex
open Go.RowKit

theorem hide {p : Prop} (h : p) : Hid p := h

set_option maxHeartbeats 400000 in
theorem zb_yes (a a' : Option Addr) (lb cb lt ct : Nat) (h : lb + lt ≤ 1048576) (w : World) :
    Calls Try.prog 8 #[.slice a lb cb, .slice a' lt ct] w fun e w' => e = .returned (.bool true) ∧ w' = w := by
  go_enter Try.func8, Try.ntmps8
  go_wp2
  go_ret
  exact ⟨rfl, rfl⟩

set_option maxHeartbeats 400000 in
theorem zb_no1 (a a' : Option Addr) (lb cb lt ct : Nat) (h : 1048576 < lb) (w : World) :
    Calls Try.prog 8 #[.slice a lb cb, .slice a' lt ct] w fun e w' => e = .returned (.bool false) ∧ w' = w := by
  go_enter Try.func8, Try.ntmps8
  go_wp2
  go_ret
  exact ⟨rfl, rfl⟩

set_option maxHeartbeats 400000 in
theorem zb_no2 (a a' : Option Addr) (lb cb lt ct : Nat) (h0 : lb ≤ 1048576) (h : 1048576 < lt) (w : World) :
    Calls Try.prog 8 #[.slice a lb cb, .slice a' lt ct] w fun e w' => e = .returned (.bool false) ∧ w' = w := by
  go_enter Try.func8, Try.ntmps8
  go_wp2
  go_ret
  exact ⟨rfl, rfl⟩

set_option maxHeartbeats 400000 in
theorem zb_no3 (a a' : Option Addr) (lb cb lt ct : Nat) (h0 : lb ≤ 1048576) (h1 : lt ≤ 1048576) (h : 1048576 < lb + lt) (w : World) :
    Calls Try.prog 8 #[.slice a lb cb, .slice a' lt ct] w fun e w' => e = .returned (.bool false) ∧ w' = w := by
  go_enter Try.func8, Try.ntmps8
  go_wp2
  go_ret
  exact ⟨rfl, rfl⟩

theorem zb_no (a a' : Option Addr) (lb cb lt ct : Nat) (h : 1048576 < lb + lt) (w : World) :
    Calls Try.prog 8 #[.slice a lb cb, .slice a' lt ct] w fun e w' => e = .returned (.bool false) ∧ w' = w := by
  by_cases h0 : 1048576 < lb
  · exact zb_no1 a a' lb cb lt ct h0 w
  · by_cases h1 : 1048576 < lt
    · exact zb_no2 a a' lb cb lt ct (by omega) h1 w
    · exact zb_no3 a a' lb cb lt ct (by omega) (by omega) h w

set_option maxHeartbeats 400000 in
theorem six_out1 (a a' : Option Addr) (lb cb lt ct : Nat) (h : 1048576 < lb + lt) (w : World) :
    Calls Try.prog 4 #[.slice a lb cb, .slice a' lt ct] w fun e w' => e = .returned (.bool true) ∧ Below w.heap.size w w' := by
  go_enter Try.func4, Try.ntmps4
  go_wp2_with fail
  refine (zb_no _ _ _ _ _ _ h _).mono ?_
  rintro e w' ⟨rfl, rfl⟩
  go_wp2_with fail
  go_ret
  exact ⟨rfl, Below.refl _ _⟩

set_option maxHeartbeats 400000 in
theorem six_out2 (a a' : Option Addr) (lb cb lt ct : Nat) (h : lb + lt ≤ 1048576) (hb : 524288 < lb) (w : World) :
    Calls Try.prog 4 #[.slice a lb cb, .slice a' lt ct] w fun e w' => e = .returned (.bool true) ∧ Below w.heap.size w w' := by
  go_enter Try.func4, Try.ntmps4
  go_wp2_with fail
  refine (zb_yes _ _ _ _ _ _ h _).mono ?_
  rintro e w' ⟨rfl, rfl⟩
  go_wp2_with fail
  go_ret
  exact ⟨rfl, Below.refl _ _⟩

set_option maxHeartbeats 400000 in
theorem six_out3 (a a' : Option Addr) (lb cb lt ct : Nat) (h : lb + lt ≤ 1048576) (hb : lb ≤ 524288) (ht : 524288 < lt) (w : World) :
    Calls Try.prog 4 #[.slice a lb cb, .slice a' lt ct] w fun e w' => e = .returned (.bool true) ∧ Below w.heap.size w w' := by
  go_enter Try.func4, Try.ntmps4
  go_wp2_with fail
  refine (zb_yes _ _ _ _ _ _ h _).mono ?_
  rintro e w' ⟨rfl, rfl⟩
  go_wp2_with fail
  go_ret
  exact ⟨rfl, Below.refl _ _⟩

set_option maxHeartbeats 400000 in
theorem six_nil (a' : Option Addr) (lt ct : Nat) (ht : lt ≤ 524288) (w : World) :
    Calls Try.prog 4 #[.slice none 0 0, .slice a' lt ct] w fun e w' => e = .returned (.bool true) ∧ Below w.heap.size w w' := by
  go_enter Try.func4, Try.ntmps4
  go_wp2_with fail
  refine (zb_yes _ _ _ _ _ _ (by omega) _).mono ?_
  rintro e w' ⟨rfl, rfl⟩
  go_wp2_with fail
  refine (esc_short _ _ _ (by omega) _).mono ?_
  rintro e w' ⟨rfl, rfl⟩
  go_wp2_with fail
  refine (esc_short _ _ _ (by omega) _).mono ?_
  rintro e w' ⟨rfl, rfl⟩
  go_wp2_with fail
  go_ret
  exact ⟨rfl, Below.refl _ _⟩

set_option maxHeartbeats 400000 in
theorem six_short (x : Addr) (a' : Option Addr) (lb cb lt ct : Nat) (zs : List Int) (hb : lb < 6) (ht : lt ≤ 524288) (w : World) (hl : lb ≤ zs.length)
    (hc : ∀ i, i < zs.length → w.cell? (x.add i) = some (.int .u8 (zs.getD i 0))) :
    Calls Try.prog 4 #[.slice (some x) lb cb, .slice a' lt ct] w fun e w' => e = .returned (.bool true) ∧ Below w.heap.size w w' := by
  obtain ⟨w1, hcp, hB, hsz, hcell⟩ := copy_ok x lb cb zs w hl hc
  have hmk := run_make_row' (P := Try.prog) 22 5 (.int .u8 0) 1 Try.underlying22 info5 rfl .i64 .i64 lb (by omega) (by omega) w
  have HB : Hid (Below w.heap.size w w1) := hB
  clear hcell hB hsz hc
  go_enter Try.func4, Try.ntmps4
  go_wp2_with fail
  refine (zb_yes _ _ _ _ _ _ (by omega) _).mono ?_
  rintro e w' ⟨rfl, rfl⟩
  go_wp2_with fail
  refine (esc_short _ _ _ hb _).mono ?_
  rintro e w' ⟨rfl, rfl⟩
  go_wp2_with fail
  refine (esc_short _ _ _ hb _).mono ?_
  rintro e w' ⟨rfl, rfl⟩
  go_wp2_with fail
  go_ret
  exact ⟨rfl, HB.out⟩

set_option maxHeartbeats 1000000 in
theorem six_all (x : Addr) (a' : Option Addr) (lb cb lt ct : Nat) (zs zt : List Int) (h6 : 6 ≤ lb) (hb : lb ≤ 524288) (ht : lt ≤ 524288) (w : World) (hl : lb ≤ zs.length)
    (hc : ∀ i, i < zs.length → w.cell? (x.add i) = some (.int .u8 (zs.getD i 0))) (hbd : ∀ i, 0 ≤ zs.getD i 0 ∧ zs.getD i 0 ≤ 255) (hT : IsBytes w a' lt ct zt) :
    Calls Try.prog 4 #[.slice (some x) lb cb, .slice a' lt ct] w fun e w' => e = .returned (.bool true) ∧ Below w.heap.size w w' := by
  obtain ⟨w1, hcp, hB, hsz, hcell⟩ := copy_ok x lb cb zs w hl hc
  have hmk := run_make_row' (P := Try.prog) 22 5 (.int .u8 0) 1 Try.underlying22 info5 rfl .i64 .i64 lb (by omega) (by omega) w
  obtain ⟨w2, w3, hap, hap', hB3, hcell3⟩ := join_ok w1 w.heap.size lb lt ct zs zt a' hl hcell (hT.carry hB)
  have hmk2 := mk_ok w1 lb lt (by omega) (by omega)
  obtain ⟨v0, v1⟩ := escv_bd (fun i => zs.getD i 0)
  have A6 : Hid (Calls Try.prog 6 #[.slice (some ⟨w.heap.size, 0, none⟩) lb lb] w1 fun e w' => e = .returned (.int .i32 (escv fun i => zs.getD i 0)) ∧ w' = w1) :=
    esc_any w.heap.size 0 lb lb _ h6 (Nat.le_refl _) (by omega) w1 (fun i hi => by rw [Nat.zero_add]; exact hcell i (by omega)) hbd
  have B6 : Hid (Calls Try.prog 6 #[.slice (some ⟨w.heap.size, 0, none⟩) 6 lb] w1 fun e w' => e = .returned (.int .i32 (escv fun i => zs.getD i 0)) ∧ w' = w1) :=
    esc_any w.heap.size 0 6 lb _ (Nat.le_refl _) h6 (by omega) w1 (fun i hi => by rw [Nat.zero_add]; exact hcell i (by omega)) hbd
  have C6 : Hid (Calls Try.prog 6 #[.slice (some ⟨w1.heap.size, 0, none⟩) (lb + lt) (lb + lt)] w3 fun e w' => e = .returned (.int .i32 (escv fun i => zs.getD i 0)) ∧ w' = w3) :=
    esc_any w1.heap.size 0 (lb + lt) (lb + lt) _ (by omega) (Nat.le_refl _) (by omega) w3 (fun i hi => by rw [Nat.zero_add]; exact hcell3 i (by omega)) hbd
  have HB : Hid (Below w.heap.size w w3) := hB.trans (hB3.mono (by omega))
  generalize (escv fun i => zs.getD i 0) = v at *
  have HAP := hide hap
  have HAP' := hide hap'
  clear hcell hB hsz hc hcell3 hB3 hT hbd hap hap'
  go_enter Try.func4, Try.ntmps4
  go_wp2_with fail
  refine (zb_yes _ _ _ _ _ _ (by omega) _).mono ?_
  rintro e w' ⟨rfl, rfl⟩
  go_wp2_with fail
  refine A6.out.mono ?_
  rintro e w' ⟨rfl, rfl⟩
  go_wp2_with fail
  refine (esc_short _ _ _ (by omega) _).mono ?_
  rintro e w' ⟨rfl, rfl⟩
  go_wp2_with fail
  refine B6.out.mono ?_
  rintro e w' ⟨rfl, rfl⟩
  go_wp2_with (first | (at_builtin; refine wpList_append_run rfl (.tmp 61) (.tmp 62) rfl _ _ rfl rfl _ _ HAP.out ?_) | (at_builtin; refine wpList_append_run rfl (.tmp 64) (.tmp 65) rfl _ _ rfl rfl _ _ HAP'.out ?_))
  refine C6.out.mono ?_
  rintro e w' ⟨rfl, rfl⟩
  go_wp2_with fail
  go_ret
  exact ⟨rfl, HB.out⟩

end Go.Proofs.Qxb6619895a.Hex
