import Derived.Test.Qxb6616150aRows
import Derived.WalkKit
import Derived.ProofKit
import Derived.OpenShut
import Derived.ShutString
namespace Go.Proofs.Qxb6616150a.fnFlowStepsOnlyAtFlowSeq
open Go.ChangeShapes Go.WideShapes Go.ChangeAt Go.RowKit
open Go.ChangeMaps (open_string shut_string)
set_option linter.unusedVariables false

theorem own : ownKnob Try.prog.godebug = none := by kernel_rfl

theorem seq_any (w : World) : Calls Try.prog 4 #[] w fun e w' => e = .returned (.int .i64 2) ∧ w' = w := by
  go_enter Try.func4, Try.ntmps4
  go_wp2
  go_ret
  exact ⟨rfl, rfl⟩

def flowB (k : Int) : Bool := decide (2 ≤ k)

theorem flow_any (k : Int) (w : World) : Calls Try.prog 6 #[.int .i64 k] w fun e w' => e = .returned (.bool (flowB k)) ∧ w' = w := by
  go_enter Try.func6, Try.ntmps6
  go_wp2
  go_ret
  exact ⟨by simp [flowB], rfl⟩

theorem zzflow_any (k : Int) (w : World) : Calls Try.prog 5 #[.int .i64 k] w fun e w' => e = .returned (.bool (flowB k)) ∧ w' = w := by
  go_enter Try.func5, Try.ntmps5
  go_wp2_with (go_at_call 6; refine (flow_any _ _).mono ?_; rintro e w' ⟨rfl, rfl⟩)
  go_ret
  exact ⟨rfl, rfl⟩

theorem zzflow_yes (k : Int) (w : World) (h : 2 ≤ k) : Calls Try.prog 5 #[.int .i64 k] w fun e w' => e = .returned (.bool true) ∧ w' = w := by
  have := zzflow_any k w
  have e : flowB k = true := by simp [flowB]; omega
  rwa [e] at this

theorem zzflow_no (k : Int) (w : World) (h : k < 2) : Calls Try.prog 5 #[.int .i64 k] w fun e w' => e = .returned (.bool false) ∧ w' = w := by
  have := zzflow_any k w
  have e : flowB k = false := by simp [flowB]; omega
  rwa [e] at this

theorem walk_least (w : World) :
    Calls Try.prog 3 #[.int .i64 (-9223372036854775808)] w fun e w' => e = .returned (.bool true) ∧ Grown w w' := by
  have hw : wrap64 (-9223372036854775809) = 9223372036854775807 := by unfold wrap64; omega
  go_enter Try.func3, Try.ntmps3
  go_wp2_with fail
  go_ret
  exact ⟨rfl, Grown.refl _⟩

theorem walk_low (a0 : Int) (h1 : -9223372036854775807 ≤ a0) (h2 : a0 < 2) (w : World) :
    Calls Try.prog 3 #[.int .i64 a0] w fun e w' => e = .returned (.bool true) ∧ Grown w w' := by
  have h3 : (a0 == 2) = false := beq_eq_false_iff_ne.2 (by omega)
  go_enter Try.func3, Try.ntmps3
  go_wp2_with (first | (go_at_call 4; refine (seq_any _).mono ?_; rintro e w' ⟨rfl, rfl⟩) | (go_at_call 5; first | (refine (zzflow_no _ _ (by omega)).mono ?_; rintro e w' ⟨rfl, rfl⟩) | (refine (zzflow_yes _ _ (by omega)).mono ?_; rintro e w' ⟨rfl, rfl⟩)))
  go_ret
  exact ⟨rfl, Grown.refl _⟩

theorem walk_mid (w : World) :
    Calls Try.prog 3 #[.int .i64 2] w fun e w' => e = .returned (.bool true) ∧ Grown w w' := by
  go_enter Try.func3, Try.ntmps3
  go_wp2_with (first | (go_at_call 4; refine (seq_any _).mono ?_; rintro e w' ⟨rfl, rfl⟩) | (go_at_call 5; first | (refine (zzflow_no _ _ (by omega)).mono ?_; rintro e w' ⟨rfl, rfl⟩) | (refine (zzflow_yes _ _ (by omega)).mono ?_; rintro e w' ⟨rfl, rfl⟩)))
  go_ret
  exact ⟨rfl, Grown.refl _⟩

theorem walk_high (a0 : Int) (h1 : 3 ≤ a0) (h2 : a0 ≤ 9223372036854775807) (w : World) :
    Calls Try.prog 3 #[.int .i64 a0] w fun e w' => e = .returned (.bool true) ∧ Grown w w' := by
  have h3 : (a0 == 2) = false := beq_eq_false_iff_ne.2 (by omega)
  go_enter Try.func3, Try.ntmps3
  go_wp2_with (first | (go_at_call 4; refine (seq_any _).mono ?_; rintro e w' ⟨rfl, rfl⟩) | (go_at_call 5; first | (refine (zzflow_no _ _ (by omega)).mono ?_; rintro e w' ⟨rfl, rfl⟩) | (refine (zzflow_yes _ _ (by omega)).mono ?_; rintro e w' ⟨rfl, rfl⟩)))
  go_ret
  exact ⟨rfl, Grown.refl _⟩

theorem walk (a0 : Int) (w0 : (Lit.int .i64 a0).wf = true) (w : World) :
    Calls Try.prog 3 #[.int .i64 a0] w fun e w' => e = .returned (.bool true) ∧ Grown w w' := by
  have bd := bounds_i64 w0
  by_cases h1 : a0 = -9223372036854775808
  · subst h1; exact walk_least w
  · by_cases h2 : a0 < 2
    · exact walk_low a0 (by omega) h2 w
    · by_cases h3 : a0 = 2
      · subst h3; exact walk_mid w
      · exact walk_high a0 (by omega) bd.2 w

set_option maxRecDepth 100000 in
theorem lifted (os : Os) (started : os.Started) (H : Type) (enc : TypeId × Value → H) :
    ReturnsInHanded {} Try.checked os 3 .any (Rows.fnFlowStepsOnlyAtFlowSeqSpec.pre6 enc Try.prog Try.f3 Rows.fnFlowStepsOnlyAtFlowSeqRow.domain false) (Rows.fnFlowStepsOnlyAtFlowSeqSpec.post enc Try.prog Try.f3 false true false false) := by
  refine returnsInHanded_of_change (C := Try.checked) own started (by kernel_rfl) Try.func3
    (ChangeSpec.witness6 (enc := enc) (C := Try.checked) false ⟨#[], #[.int .i64 0], []⟩ 8 (by kernel_rfl) (by kernel_rfl) (by kernel_rfl) (by kernel_rfl)) ?_
  intro W base args ds gs before hval0 hW hcnd _
  have hval : ∀ (j : Nat) t v, Try.f3.params[j]? = some t → args[j]? = some v → Value.okWide Try.prog W .any base t v := hval0
  have hW' := hW
  obtain ⟨p, q, hA0, hV, rfl, hfz, hnd⟩ := hW
  have hA : DataW.TrodAll enc Try.prog W 0 (fun _ => true) true Try.f3.params.toList args.toList ds p := hA0
  rw [Try.params3] at hA hval
  obtain ⟨v0, vs0, d0, ds0, p0, q0, hargs, rfl, rfl, h0, r0⟩ := trodAll_cons hA
  obtain ⟨rfl, rfl, rfl⟩ := trodAll_nil r0
  obtain rfl : args = #[v0] := by cases args; simp_all
  obtain ⟨rfl, rfl⟩ := trodVars_none hV
  obtain ⟨a0, rfl, rfl, rfl, w0⟩ := open_int Try.underlying3 (hval 0 3 v0 rfl rfl) h0
  clear hA0 hval0
  simp only [List.append_nil] at hW'
  refine (walk a0 w0 W).mono fun e W' ⟨he, hg⟩ => ?_
  subst he
  exact ⟨_, rfl, post_of_same (pa := []) (pv := []) hW' (fun _ _ _ => (trodAll_cons_mk (shut_bool Try.underlying4 _) trodAll_mk0)) (fun sp _ => (trodAll_cons_mk (shut_int Try.underlying3 w0) trodAll_mk0)) (fun _ _ => rfl) rfl
    (hg.frame _) hg.2.1 (ok_one (by kernel_rfl) rfl (okWide_bool_mk Try.underlying4 _))⟩

theorem over : Rows.fnFlowStepsOnlyAtFlowSeqRow.holds Try.pinned (OpenSpec.ofChange Rows.fnFlowStepsOnlyAtFlowSeqSpec) :=
  OpenClaim.holds_of_wide 3 Try.f3 rfl rfl rfl rfl rfl rfl rfl ⟨rfl, rfl, rfl, rfl, rfl⟩ rfl rfl rfl rfl rfl (by kernel_rfl) Try.func3 (by kernel_rfl)
    (of_decide_eq_true (by kernel_rfl)) (by unfold Func.isWrapper; first | (rw [if_pos (by decide +kernel)]; kernel_rfl) | (rw [if_neg (by decide +kernel)]; exact ⟨rfl, rfl⟩))
    (fun os started H enc _ => lifted os started H enc)

theorem proved : Rows.FnFlowStepsOnlyAtFlowSeqSaid :=
  over
end Go.Proofs.Qxb6616150a.fnFlowStepsOnlyAtFlowSeq
