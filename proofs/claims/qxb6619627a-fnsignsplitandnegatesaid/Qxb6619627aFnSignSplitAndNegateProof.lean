/-
  The proof of 'Rows.FnSignSplitAndNegateSaid'. The frame is the guide's (floats opened and shut by the laws of Derived/Laws/Cover2.lean); its cases: Qxb6619627aSplit.
-/
import Derived.Test.Qxb6619627aRows
import Derived.Test.Qxb6619627aSplit
import Derived.WalkKit
import Derived.ProofKit
import Derived.OpenShut
import Derived.WalkLawsBesides
namespace Go.Proofs.Qxb6619627a.fnSignSplitAndNegate
open Go.ChangeShapes Go.WideShapes Go.ChangeAt Go.RowKit
set_option linter.unusedVariables false

theorem own : ownKnob Try.prog.godebug = none := by kernel_rfl

theorem walk (a0 : Nat) (a1 : Nat) (a2 : Nat) (w : World) :
    Calls Try.prog 7 #[.float .f64 a0, .float .f64 a1, .float .f64 a2] w fun e w' => e = .returned (.bool true) ∧ Grown w w' := by
  by_cases h : (FloatKind.f64.format.order a0 a1 == some .lt || FloatKind.f64.format.order a0 a1 == some .eq) = true
  · by_cases h' : (FloatKind.f64.format.order a1 a2 == some .lt || FloatKind.f64.format.order a1 a2 == some .eq) = true
    · obtain ⟨n0, n1, le⟩ := Flt.le_mono a0 a1 h
      obtain ⟨_, n2, le'⟩ := Flt.le_mono a1 a2 h'
      rcases Flt.sg_cases a0 with e0 | e0 | e0 <;> rcases Flt.sg_cases a1 with e1 | e1 | e1 <;> rcases Flt.sg_cases a2 with e2 | e2 | e2
      · exact Flt.split_nnn a0 a1 a2 n0 n1 n2 h h' e0 e1 e2 w
      · exact Flt.split_nnz a0 a1 a2 n0 n1 n2 h h' e0 e1 e2 w
      · exact Flt.split_nnp a0 a1 a2 n0 n1 n2 h h' e0 e1 e2 w
      · exfalso; omega
      · exact Flt.split_nzz a0 a1 a2 n0 n1 n2 h h' e0 e1 e2 w
      · exact Flt.split_nzp a0 a1 a2 n0 n1 n2 h h' e0 e1 e2 w
      · exfalso; omega
      · exfalso; omega
      · exact Flt.split_npp a0 a1 a2 n0 n1 n2 h h' e0 e1 e2 w
      · exfalso; omega
      · exfalso; omega
      · exfalso; omega
      · exfalso; omega
      · exact Flt.split_zzz a0 a1 a2 n0 n1 n2 h h' e0 e1 e2 w
      · exact Flt.split_zzp a0 a1 a2 n0 n1 n2 h h' e0 e1 e2 w
      · exfalso; omega
      · exfalso; omega
      · exact Flt.split_zpp a0 a1 a2 n0 n1 n2 h h' e0 e1 e2 w
      · exfalso; omega
      · exfalso; omega
      · exfalso; omega
      · exfalso; omega
      · exfalso; omega
      · exfalso; omega
      · exfalso; omega
      · exfalso; omega
      · exact Flt.split_ppp a0 a1 a2 n0 n1 n2 h h' e0 e1 e2 w
    · exact Flt.split_out2 a0 a1 a2 h (by simpa using h') w
  · exact Flt.split_out1 a0 a1 a2 (by simpa using h) w

set_option maxRecDepth 100000 in
theorem lifted (os : Os) (started : os.Started) (H : Type) (enc : TypeId × Value → H) :
    ReturnsInHanded {} Try.checked os 7 .any (Rows.fnSignSplitAndNegateSpec.pre6 enc Try.prog Try.f7 Rows.fnSignSplitAndNegateRow.domain false) (Rows.fnSignSplitAndNegateSpec.post enc Try.prog Try.f7 false true false false) := by
  refine returnsInHanded_of_change (C := Try.checked) own started (by kernel_rfl) Try.func7
    (ChangeSpec.witness6 (enc := enc) (C := Try.checked) false ⟨#[], #[.float .f64 0, .float .f64 0, .float .f64 0], []⟩ 8 (by kernel_rfl) (by kernel_rfl) (by kernel_rfl) (by kernel_rfl)) ?_
  intro W base args ds gs before hval0 hW hcnd _
  have hval : ∀ (j : Nat) t v, Try.f7.params[j]? = some t → args[j]? = some v → Value.okWide Try.prog W .any base t v := hval0
  have hW' := hW
  obtain ⟨p, q, hA0, hV, rfl, hfz, hnd⟩ := hW
  have hA : DataW.TrodAll enc Try.prog W 0 (fun _ => true) true Try.f7.params.toList args.toList ds p := hA0
  rw [Try.params7] at hA hval
  obtain ⟨v0, vs0, d0, ds0, p0, q0, hargs, rfl, rfl, h0, r0⟩ := trodAll_cons hA
  obtain ⟨v1, vs1, d1, ds1, p1, q1, rfl, rfl, rfl, h1, r1⟩ := trodAll_cons r0
  obtain ⟨v2, vs2, d2, ds2, p2, q2, rfl, rfl, rfl, h2, r2⟩ := trodAll_cons r1
  obtain ⟨rfl, rfl, rfl⟩ := trodAll_nil r2
  obtain rfl : args = #[v0, v1, v2] := by cases args; simp_all
  obtain ⟨rfl, rfl⟩ := trodVars_none hV
  obtain ⟨a0, rfl, rfl, rfl, w0⟩ := open_float Try.underlying28 (hval 0 28 v0 rfl rfl) h0
  obtain ⟨a1, rfl, rfl, rfl, w1⟩ := open_float Try.underlying28 (hval 1 28 v1 rfl rfl) h1
  obtain ⟨a2, rfl, rfl, rfl, w2⟩ := open_float Try.underlying28 (hval 2 28 v2 rfl rfl) h2
  clear hA0 hval0
  simp only [List.append_nil] at hW'
  refine (walk a0 a1 a2 W).mono fun e W' ⟨he, hg⟩ => ?_
  subst he
  exact ⟨_, rfl, post_of_same (pa := []) (pv := []) hW' (fun _ _ _ => (trodAll_cons_mk (shut_bool Try.underlying4 _) trodAll_mk0)) (fun sp _ => (trodAll_cons_mk (shut_float Try.underlying28 w0) (trodAll_cons_mk (shut_float Try.underlying28 w1) (trodAll_cons_mk (shut_float Try.underlying28 w2) trodAll_mk0)))) (fun _ _ => rfl) rfl
    (hg.frame _) hg.2.1 (ok_one (by kernel_rfl) rfl (okWide_bool_mk Try.underlying4 _))⟩

theorem over : Rows.fnSignSplitAndNegateRow.holds Try.pinned (OpenSpec.ofChange Rows.fnSignSplitAndNegateSpec) :=
  OpenClaim.holds_of_wide 7 Try.f7 rfl rfl rfl rfl rfl rfl rfl ⟨rfl, rfl, rfl, rfl, rfl⟩ rfl rfl rfl rfl rfl (by kernel_rfl) Try.func7 (by kernel_rfl)
    (of_decide_eq_true (by kernel_rfl)) (by unfold Func.isWrapper; first | (rw [if_pos (by decide +kernel)]; kernel_rfl) | (rw [if_neg (by decide +kernel)]; exact ⟨rfl, rfl⟩))
    (fun os started H enc _ => lifted os started H enc)

/-- ████ THE STATEMENT ████ -/
theorem proved : Rows.FnSignSplitAndNegateSaid :=
  over
#print axioms proved
end Go.Proofs.Qxb6619627a.fnSignSplitAndNegate
