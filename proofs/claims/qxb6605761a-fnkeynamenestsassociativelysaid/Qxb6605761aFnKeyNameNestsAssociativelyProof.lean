/-
  FnKeyNameNestsAssociatively: the proof. The frame is the shell that was given; the walk is filled in out of the callees' contracts.
-/
import Derived.Test.Qxb6605761aRows
import Derived.Test.Qxb6605761aKeys
import Derived.WalkKit
import Derived.ProofKit
import Derived.OpenShut
import Derived.ShutString
namespace Go.Proofs.Qxb6605761a.fnKeyNameNestsAssociatively
open Go.ChangeShapes Go.WideShapes Go.ChangeAt Go.RowKit
open Go.ChangeMaps (open_string shut_string)
set_option linter.unusedVariables false      -- a walk need not use every 'w<i>' (that an integer argument fits its kind)

theorem own : ownKnob Try.prog.godebug = none := by kernel_rfl

/-! ### STEP 1: THE WALK: the Go text returns true. 'Grown w w'': the world has at most new blocks (Derived/RowKit3.lean). -/
set_option maxHeartbeats 2000000 in
theorem walk (a0 : ByteArray) (a1 : ByteArray) (a2 : ByteArray) (w0 : a0.size ≤ maxLen) (w1 : a1.size ≤ maxLen) (w2 : a2.size ≤ maxLen) (w : World) :
    Calls Try.prog 5 #[.string a0, .string a1, .string a2] w fun e w' => e = .returned (.bool true) ∧ Grown w w' := by
  by_cases hz : a0.size + a1.size + a2.size ≤ 1048576
  case neg =>
    have z := Keys.zb_no hz
    clear hz
    go_enter Try.func5, Try.ntmps5
    go_wp2_with (go_at_call 8; refine (Keys.zz_any _ _ _ _ w0 w1 w2).mono ?_; rintro e w' ⟨rfl, rfl⟩)
    go_ret
    exact ⟨rfl, Grown.refl _⟩
  have z := Keys.zb_yes hz
  by_cases h0 : 262144 < a0.size
  · go_enter Try.func5, Try.ntmps5
    go_wp2_with (go_at_call 8; refine (Keys.zz_any _ _ _ _ w0 w1 w2).mono ?_; rintro e w' ⟨rfl, rfl⟩)
    go_ret
    exact ⟨rfl, Grown.refl _⟩
  by_cases h1 : 262144 < a1.size
  · go_enter Try.func5, Try.ntmps5
    go_wp2_with (go_at_call 8; refine (Keys.zz_any _ _ _ _ w0 w1 w2).mono ?_; rintro e w' ⟨rfl, rfl⟩)
    go_ret
    exact ⟨rfl, Grown.refl _⟩
  by_cases h2 : 262144 < a2.size
  · go_enter Try.func5, Try.ntmps5
    go_wp2_with (go_at_call 8; refine (Keys.zz_any _ _ _ _ w0 w1 w2).mono ?_; rintro e w' ⟨rfl, rfl⟩)
    go_ret
    exact ⟨rfl, Grown.refl _⟩
  cases hb : a1.toList.isEmpty with
  | true =>
    go_enter Try.func5, Try.ntmps5
    go_wp2_with (go_at_call 8; refine (Keys.zz_any _ _ _ _ w0 w1 w2).mono ?_; rintro e w' ⟨rfl, rfl⟩)
    go_ret
    exact ⟨rfl, Grown.refl _⟩
  | false =>
    have l1 := Keys.kn_size_le a0 a1
    have l2 := Keys.kn_size_le a1 a2
    have l3 := Keys.kn_size_le (Keys.kn a0 a1) a2
    have l4 := Keys.kn_size_le a0 (Keys.kn a1 a2)
    have d0 := Keys.dots_le a0.data.toList
    have d1 := Keys.dots_le a1.data.toList
    have d2 := Keys.dots_le a2.data.toList
    have e1 : ((Keys.kn (Keys.kn a0 a1) a2).toList == (Keys.kn a0 (Keys.kn a1 a2)).toList) = true := by rw [Keys.kn_assoc hb]; simp
    simp only [Array.length_toList, ByteArray.size_data] at d0 d1 d2
    cases ha : a0.toList.isEmpty with
    | true =>
      obtain ⟨e2, e3⟩ := Keys.kn_three_nil (c := a2) ha hb
      have e2' : (((Keys.kn (Keys.kn a0 a1) a2).size : Int) == (a0.size : Int) + a1.size + a2.size + 1) = true := by rw [e2]; simp
      have e3' : (Keys.dots (Keys.kn (Keys.kn a0 a1) a2).data.toList == Keys.dots a0.data.toList + Keys.dots a1.data.toList + Keys.dots a2.data.toList + 1) = true := by rw [e3]; simp
      clear e2 e3
      go_enter Try.func5, Try.ntmps5
      go_wp2_with (first | (go_at_call 8; refine (Keys.zz_any _ _ _ _ w0 w1 w2).mono ?_; rintro e w' ⟨rfl, rfl⟩) | (go_at_call 9; refine (Keys.ZZkeyName_any _ _ _ (by omega) (by omega)).mono ?_; rintro e w' ⟨rfl, rfl⟩) | (go_at_call 10; refine (Keys.dots_any _ _ (by omega)).mono ?_; rintro e w' ⟨rfl, rfl⟩))
      go_ret
      exact ⟨rfl, Grown.refl _⟩
    | false =>
      obtain ⟨e2, e3⟩ := Keys.kn_three_not (b := a1) (c := a2) ha
      have e2' : (((Keys.kn (Keys.kn a0 a1) a2).size : Int) == (a0.size : Int) + a1.size + a2.size + 2) = true := by rw [e2]; simp
      have e3' : (Keys.dots (Keys.kn (Keys.kn a0 a1) a2).data.toList == Keys.dots a0.data.toList + Keys.dots a1.data.toList + Keys.dots a2.data.toList + 2) = true := by rw [e3]; simp
      clear e2 e3
      go_enter Try.func5, Try.ntmps5
      go_wp2_with (first | (go_at_call 8; refine (Keys.zz_any _ _ _ _ w0 w1 w2).mono ?_; rintro e w' ⟨rfl, rfl⟩) | (go_at_call 9; refine (Keys.ZZkeyName_any _ _ _ (by omega) (by omega)).mono ?_; rintro e w' ⟨rfl, rfl⟩) | (go_at_call 10; refine (Keys.dots_any _ _ (by omega)).mono ?_; rintro e w' ⟨rfl, rfl⟩))
      go_ret
      exact ⟨rfl, Grown.refl _⟩

/-! ### THE ROW's STEP: WRITTEN OUT -/
set_option maxRecDepth 100000 in
theorem lifted (os : Os) (started : os.Started) (H : Type) (enc : TypeId × Value → H) :
    ReturnsInHanded {} Try.checked os 5 .any (Rows.fnKeyNameNestsAssociativelySpec.pre6 enc Try.prog Try.f5 Rows.fnKeyNameNestsAssociativelyRow.domain false) (Rows.fnKeyNameNestsAssociativelySpec.post enc Try.prog Try.f5 false true false false) := by
  refine returnsInHanded_of_change (C := Try.checked) own started (by kernel_rfl) Try.func5
    (ChangeSpec.witness6 (enc := enc) (C := Try.checked) false ⟨#[], #[.string ByteArray.empty, .string ByteArray.empty, .string ByteArray.empty], []⟩ 8 (by kernel_rfl) (by kernel_rfl) (by kernel_rfl) (by kernel_rfl)) ?_
  intro W base args ds gs before hval0 hW hcnd _
  have hval : ∀ (j : Nat) t v, Try.f5.params[j]? = some t → args[j]? = some v → Value.okWide Try.prog W .any base t v := hval0
  have hW' := hW
  obtain ⟨p, q, hA0, hV, rfl, hfz, hnd⟩ := hW
  have hA : DataW.TrodAll enc Try.prog W 0 (fun _ => true) true Try.f5.params.toList args.toList ds p := hA0
  rw [Try.params5] at hA hval
  obtain ⟨v0, vs0, d0, ds0, p0, q0, hargs, rfl, rfl, h0, r0⟩ := trodAll_cons hA
  obtain ⟨v1, vs1, d1, ds1, p1, q1, rfl, rfl, rfl, h1, r1⟩ := trodAll_cons r0
  obtain ⟨v2, vs2, d2, ds2, p2, q2, rfl, rfl, rfl, h2, r2⟩ := trodAll_cons r1
  obtain ⟨rfl, rfl, rfl⟩ := trodAll_nil r2
  obtain rfl : args = #[v0, v1, v2] := by cases args; simp_all
  obtain ⟨rfl, rfl⟩ := trodVars_none hV
  obtain ⟨a0, rfl, rfl, rfl, w0⟩ := open_string Try.underlying9 (hval 0 9 v0 rfl rfl) h0
  obtain ⟨a1, rfl, rfl, rfl, w1⟩ := open_string Try.underlying9 (hval 1 9 v1 rfl rfl) h1
  obtain ⟨a2, rfl, rfl, rfl, w2⟩ := open_string Try.underlying9 (hval 2 9 v2 rfl rfl) h2
  clear hA0 hval0
  simp only [List.append_nil] at hW'
  refine (walk a0 a1 a2 w0 w1 w2 W).mono fun e W' ⟨he, hg⟩ => ?_
  subst he
  exact ⟨_, rfl, post_of_same (pa := []) (pv := []) hW' (fun _ _ _ => (trodAll_cons_mk (shut_bool Try.underlying4 _) trodAll_mk0)) (fun sp _ => (trodAll_cons_mk (shut_string Try.underlying9 w0) (trodAll_cons_mk (shut_string Try.underlying9 w1) (trodAll_cons_mk (shut_string Try.underlying9 w2) trodAll_mk0)))) (fun _ _ => rfl) rfl
    (hg.frame _) hg.2.1 (ok_one (by kernel_rfl) rfl (okWide_bool_mk Try.underlying4 _))⟩

theorem over : Rows.fnKeyNameNestsAssociativelyRow.holds Try.pinned (OpenSpec.ofChange Rows.fnKeyNameNestsAssociativelySpec) :=
  OpenClaim.holds_of_wide 5 Try.f5 rfl rfl rfl rfl rfl rfl rfl ⟨rfl, rfl, rfl, rfl, rfl⟩ rfl rfl rfl rfl rfl (by kernel_rfl) Try.func5 (by kernel_rfl)
    (of_decide_eq_true (by kernel_rfl)) (by unfold Func.isWrapper; first | (rw [if_pos (by decide +kernel)]; kernel_rfl) | (rw [if_neg (by decide +kernel)]; exact ⟨rfl, rfl⟩))
    (fun os started H enc _ => lifted os started H enc)

/-- ████ THE STATEMENT ████ -/
theorem proved : Rows.FnKeyNameNestsAssociativelySaid :=
  over
#print axioms proved
end Go.Proofs.Qxb6605761a.fnKeyNameNestsAssociatively
