/-
  FnPrintableExactlyOutsideExcluded: the proof. The frame is the shell that was given; the walk is filled in: the number line is cut into eighteen pieces, every test is decided ahead of the walk.
-/
import Derived.Test.Qxb6605761aRows
import Derived.Test.Qxb6605761aPrint
import Derived.WalkKit
import Derived.ProofKit
import Derived.OpenShut
import Derived.ShutString
namespace Go.Proofs.Qxb6605761a.fnPrintableExactlyOutsideExcluded
open Go.ChangeShapes Go.WideShapes Go.ChangeAt Go.RowKit
open Go.ChangeMaps (open_string shut_string)
set_option linter.unusedVariables false      -- a walk need not use every 'w<i>' (that an integer argument fits its kind)

theorem own : ownKnob Try.prog.godebug = none := by kernel_rfl

/-! ### STEP 1: THE WALK: the Go text returns true. 'Grown w w'': the world has at most new blocks (Derived/RowKit3.lean). -/
set_option maxHeartbeats 2000000 in
theorem walk (a0 : Int) (w0 : (Lit.int .i32 a0).wf = true) (w : World) :
    Calls Try.prog 3 #[.int .i32 a0] w fun e w' => e = .returned (.bool true) ∧ Grown w w' := by
  have cut : a0 < 0 ∨ (0 ≤ a0 ∧ a0 < 9) ∨ a0 = 9 ∨ a0 = 10 ∨ (10 < a0 ∧ a0 < 13) ∨ a0 = 13 ∨ (13 < a0 ∧ a0 < 32) ∨ (32 ≤ a0 ∧ a0 ≤ 126) ∨ (126 < a0 ∧ a0 < 133) ∨ a0 = 133 ∨ (133 < a0 ∧ a0 < 160) ∨ (160 ≤ a0 ∧ a0 ≤ 55295) ∨ (55295 < a0 ∧ a0 < 57344) ∨ (57344 ≤ a0 ∧ a0 ≤ 65533) ∨ a0 = 65534 ∨ a0 = 65535 ∨ (65536 ≤ a0 ∧ a0 ≤ 1114111) ∨ 1114111 < a0 := by omega
  clear w0
  rcases cut with h | h | h | h | h | h | h | h | h | h | h | h | h | h | h | h | h | h
  all_goals
    first | have b1 : decide (a0 < 0) = true := decide_eq_true (by omega) | have b1 : decide (a0 < 0) = false := decide_eq_false (by omega)
    first | have b2 : decide (a0 ≤ 31) = true := decide_eq_true (by omega) | have b2 : decide (a0 ≤ 31) = false := decide_eq_false (by omega)
    first | have b3 : (a0 != 9) = true := by rw [bne_iff_ne]; omega | have b3 : (a0 != 9) = false := by rw [bne_eq_false_iff_eq]; omega
    first | have b4 : (a0 != 10) = true := by rw [bne_iff_ne]; omega | have b4 : (a0 != 10) = false := by rw [bne_eq_false_iff_eq]; omega
    first | have b5 : (a0 != 13) = true := by rw [bne_iff_ne]; omega | have b5 : (a0 != 13) = false := by rw [bne_eq_false_iff_eq]; omega
    first | have b6 : decide (127 ≤ a0) = true := decide_eq_true (by omega) | have b6 : decide (127 ≤ a0) = false := decide_eq_false (by omega)
    first | have b7 : decide (a0 ≤ 159) = true := decide_eq_true (by omega) | have b7 : decide (a0 ≤ 159) = false := decide_eq_false (by omega)
    first | have b8 : (a0 != 133) = true := by rw [bne_iff_ne]; omega | have b8 : (a0 != 133) = false := by rw [bne_eq_false_iff_eq]; omega
    first | have b9 : decide (55296 ≤ a0) = true := decide_eq_true (by omega) | have b9 : decide (55296 ≤ a0) = false := decide_eq_false (by omega)
    first | have b10 : decide (a0 ≤ 57343) = true := decide_eq_true (by omega) | have b10 : decide (a0 ≤ 57343) = false := decide_eq_false (by omega)
    first | have b11 : (a0 == 65534) = true := beq_iff_eq.2 (by omega) | have b11 : (a0 == 65534) = false := beq_eq_false_iff_ne.2 (by omega)
    first | have b12 : (a0 == 65535) = true := beq_iff_eq.2 (by omega) | have b12 : (a0 == 65535) = false := beq_eq_false_iff_ne.2 (by omega)
    first | have b13 : decide (1114111 < a0) = true := decide_eq_true (by omega) | have b13 : decide (1114111 < a0) = false := decide_eq_false (by omega)
    first | (have hp := Print.prt_yes (r := a0) (by omega)) | (have hp := Print.prt_no (r := a0) (by omega))
    have HH : Hid (_) := h
    clear h
    go_enter Try.func3, Try.ntmps3
    go_wp2_with (go_at_call 6; refine (Print.ZZprintable_any _ _).mono ?_; rintro e w' ⟨rfl, rfl⟩)
    go_ret
    exact ⟨rfl, Grown.refl _⟩

/-! ### THE ROW's STEP: WRITTEN OUT -/
set_option maxRecDepth 100000 in
theorem lifted (os : Os) (started : os.Started) (H : Type) (enc : TypeId × Value → H) :
    ReturnsInHanded {} Try.checked os 3 .any (Rows.fnPrintableExactlyOutsideExcludedSpec.pre6 enc Try.prog Try.f3 Rows.fnPrintableExactlyOutsideExcludedRow.domain false) (Rows.fnPrintableExactlyOutsideExcludedSpec.post enc Try.prog Try.f3 false true false false) := by
  refine returnsInHanded_of_change (C := Try.checked) own started (by kernel_rfl) Try.func3
    (ChangeSpec.witness6 (enc := enc) (C := Try.checked) false ⟨#[], #[.int .i32 0], []⟩ 8 (by kernel_rfl) (by kernel_rfl) (by kernel_rfl) (by kernel_rfl)) ?_
  intro W base args ds gs before hval0 hW hcnd _
  have hval : ∀ (j : Nat) t v, Try.f3.params[j]? = some t → args[j]? = some v → Value.okWide Try.prog W .any base t v := hval0
  have hW' := hW
  obtain ⟨p, q, hA0, hV, rfl, hfz, hnd⟩ := hW
  have hA : DataW.TrodAll enc Try.prog W 0 (fun _ => true) true Try.f3.params.toList args.toList ds p := hA0
  rw [Try.params3] at hA hval
  obtain ⟨v0, vs0, d0, ds0, p0, q0, hargs, rfl, rfl, h0, r0⟩ := trodAll_cons hA
  obtain ⟨rfl, rfl, rfl⟩ := trodAll_nil r0
  obtain rfl : args = #[v0] := by cases args; simp_all
  obtain ⟨rfl, rfl⟩ := trodVars_none hV
  obtain ⟨a0, rfl, rfl, rfl, w0⟩ := open_int Try.underlying21 (hval 0 21 v0 rfl rfl) h0
  clear hA0 hval0
  simp only [List.append_nil] at hW'
  refine (walk a0 w0 W).mono fun e W' ⟨he, hg⟩ => ?_
  subst he
  exact ⟨_, rfl, post_of_same (pa := []) (pv := []) hW' (fun _ _ _ => (trodAll_cons_mk (shut_bool Try.underlying4 _) trodAll_mk0)) (fun sp _ => (trodAll_cons_mk (shut_int Try.underlying21 w0) trodAll_mk0)) (fun _ _ => rfl) rfl
    (hg.frame _) hg.2.1 (ok_one (by kernel_rfl) rfl (okWide_bool_mk Try.underlying4 _))⟩

theorem over : Rows.fnPrintableExactlyOutsideExcludedRow.holds Try.pinned (OpenSpec.ofChange Rows.fnPrintableExactlyOutsideExcludedSpec) :=
  OpenClaim.holds_of_wide 3 Try.f3 rfl rfl rfl rfl rfl rfl rfl ⟨rfl, rfl, rfl, rfl, rfl⟩ rfl rfl rfl rfl rfl (by kernel_rfl) Try.func3 (by kernel_rfl)
    (of_decide_eq_true (by kernel_rfl)) (by unfold Func.isWrapper; first | (rw [if_pos (by decide +kernel)]; kernel_rfl) | (rw [if_neg (by decide +kernel)]; exact ⟨rfl, rfl⟩))
    (fun os started H enc _ => lifted os started H enc)

/-- ████ THE STATEMENT ████ -/
theorem proved : Rows.FnPrintableExactlyOutsideExcludedSaid :=
  over
#print axioms proved
end Go.Proofs.Qxb6605761a.fnPrintableExactlyOutsideExcluded
