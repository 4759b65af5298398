/-
  FnPrintableCountMatchesSpecIntervals: the proof. The frame is the shell that was given; the walk is filled in: the loop counts 'cnt'; 'cnt_eq' tells it by the overlaps.
-/
import Derived.Test.Qxb6605761aRows
import Derived.Test.Qxb6605761aCount
import Derived.WalkKit
import Derived.ProofKit
import Derived.OpenShut
import Derived.ShutString
namespace Go.Proofs.Qxb6605761a.fnPrintableCountMatchesSpecIntervals
open Go.ChangeShapes Go.WideShapes Go.ChangeAt Go.RowKit
open Go.ChangeMaps (open_string shut_string)
set_option linter.unusedVariables false      -- a walk need not use every 'w<i>' (that an integer argument fits its kind)

theorem own : ownKnob Try.prog.godebug = none := by kernel_rfl

/-! ### STEP 1: THE WALK: the Go text returns true. 'Grown w w'': the world has at most new blocks (Derived/RowKit3.lean). -/
set_option maxHeartbeats 2000000 in
theorem walk (a0 : Int) (a1 : Int) (w0 : (Lit.int .i32 a0).wf = true) (w1 : (Lit.int .i64 a1).wf = true) (w : World) :
    Calls Try.prog 4 #[.int .i32 a0, .int .i64 a1] w fun e w' => e = .returned (.bool true) ∧ Grown w w' := by
  have bd : -2147483648 ≤ a0 ∧ a0 ≤ 2147483647 := by have := bounds_i32 w0; omega
  obtain ⟨lo1, lo2⟩ := bd
  clear w0 w1
  by_cases hn : a1 < 0
  · go_enter Try.func4, Try.ntmps4
    go_wp2
    go_ret
    exact ⟨rfl, Grown.refl _⟩
  by_cases hm : 65536 < a1
  · go_enter Try.func4, Try.ntmps4
    go_wp2
    go_ret
    exact ⟨rfl, Grown.refl _⟩
  obtain ⟨n, rfl⟩ := Int.eq_ofNat_of_zero_le (show 0 ≤ a1 by omega)
  by_cases hs : 2147483648 < a0 + n
  · go_enter Try.func4, Try.ntmps4
    go_wp2
    go_ret
    exact ⟨rfl, Grown.refl _⟩
  have k1 : decide ((n : Int) < 0) = false := decide_eq_false (by omega)
  have k2 : decide (65536 < (n : Int)) = false := decide_eq_false (by omega)
  have k3 : decide (2147483648 < a0 + (n : Int)) = false := decide_eq_false (by omega)
  have hm' : (n : Int) ≤ 65536 := by omega
  have hs' : a0 + (n : Int) ≤ 2147483648 := by omega
  clear hn hm hs
  go_enter Try.func4, Try.ntmps4
  go_wp2
  go_loop [5, 6] (fun c i => ∃ k : Nat, k ≤ n ∧ i = .int .i64 k ∧ c = .int .i64 (Count.cnt a0 k)) (fun _ i => n - (intOf i).toNat)
  case atStart => exact ⟨0, Nat.zero_le _, rfl, rfl⟩
  case round =>
    obtain ⟨k, hk, rfl, rfl⟩ := hrel
    obtain ⟨c1, c2⟩ := Count.cnt_bd a0 k
    by_cases hlt : k < n
    · have hst : Hid (Count.cnt a0 (k + 1) = Count.cnt a0 k + (if Print.prt (a0 + k) = true then 1 else 0)) := rfl
      cases hp : Print.prt (a0 + k)
      all_goals
        go_wp2_with (go_at_call 6; refine (Print.ZZprintable_any _ _).mono ?_; rintro e w' ⟨rfl, rfl⟩)
        go_round
        case rel => exact ⟨k + 1, by omega, by go_num, by simp [hst.out, hp]⟩
        case measure => simp [intOf]; omega
    · have : k = n := by omega
      subst this
      have heq : Hid (_) := Count.cnt_eq a0 k
      have o1 := Count.ovl_bd 9 10 a0 k
      have o2 := Count.ovl_bd 13 13 a0 k
      have o3 := Count.ovl_bd 32 126 a0 k
      have o4 := Count.ovl_bd 133 133 a0 k
      have o5 := Count.ovl_bd 160 55295 a0 k
      have o6 := Count.ovl_bd 57344 65533 a0 k
      have o7 := Count.ovl_bd 65536 1114111 a0 k
      go_wp2_with (go_at_call 7; refine (Count.overlap_any _ _ _ _ _ (by omega) (by omega) (by omega) (by omega)).mono ?_; rintro e w' ⟨rfl, rfl⟩)
      go_ret
      exact ⟨Print.ret_bool (by rw [heq.out]; simp), Grown.refl _⟩

/-! ### THE ROW's STEP: WRITTEN OUT -/
set_option maxRecDepth 100000 in
theorem lifted (os : Os) (started : os.Started) (H : Type) (enc : TypeId × Value → H) :
    ReturnsInHanded {} Try.checked os 4 .any (Rows.fnPrintableCountMatchesSpecIntervalsSpec.pre6 enc Try.prog Try.f4 Rows.fnPrintableCountMatchesSpecIntervalsRow.domain false) (Rows.fnPrintableCountMatchesSpecIntervalsSpec.post enc Try.prog Try.f4 false true false false) := by
  refine returnsInHanded_of_change (C := Try.checked) own started (by kernel_rfl) Try.func4
    (ChangeSpec.witness6 (enc := enc) (C := Try.checked) false ⟨#[], #[.int .i32 0, .int .i64 0], []⟩ 8 (by kernel_rfl) (by kernel_rfl) (by kernel_rfl) (by kernel_rfl)) ?_
  intro W base args ds gs before hval0 hW hcnd _
  have hval : ∀ (j : Nat) t v, Try.f4.params[j]? = some t → args[j]? = some v → Value.okWide Try.prog W .any base t v := hval0
  have hW' := hW
  obtain ⟨p, q, hA0, hV, rfl, hfz, hnd⟩ := hW
  have hA : DataW.TrodAll enc Try.prog W 0 (fun _ => true) true Try.f4.params.toList args.toList ds p := hA0
  rw [Try.params4] at hA hval
  obtain ⟨v0, vs0, d0, ds0, p0, q0, hargs, rfl, rfl, h0, r0⟩ := trodAll_cons hA
  obtain ⟨v1, vs1, d1, ds1, p1, q1, rfl, rfl, rfl, h1, r1⟩ := trodAll_cons r0
  obtain ⟨rfl, rfl, rfl⟩ := trodAll_nil r1
  obtain rfl : args = #[v0, v1] := by cases args; simp_all
  obtain ⟨rfl, rfl⟩ := trodVars_none hV
  obtain ⟨a0, rfl, rfl, rfl, w0⟩ := open_int Try.underlying21 (hval 0 21 v0 rfl rfl) h0
  obtain ⟨a1, rfl, rfl, rfl, w1⟩ := open_int Try.underlying3 (hval 1 3 v1 rfl rfl) h1
  clear hA0 hval0
  simp only [List.append_nil] at hW'
  refine (walk a0 a1 w0 w1 W).mono fun e W' ⟨he, hg⟩ => ?_
  subst he
  exact ⟨_, rfl, post_of_same (pa := []) (pv := []) hW' (fun _ _ _ => (trodAll_cons_mk (shut_bool Try.underlying4 _) trodAll_mk0)) (fun sp _ => (trodAll_cons_mk (shut_int Try.underlying21 w0) (trodAll_cons_mk (shut_int Try.underlying3 w1) trodAll_mk0))) (fun _ _ => rfl) rfl
    (hg.frame _) hg.2.1 (ok_one (by kernel_rfl) rfl (okWide_bool_mk Try.underlying4 _))⟩

theorem over : Rows.fnPrintableCountMatchesSpecIntervalsRow.holds Try.pinned (OpenSpec.ofChange Rows.fnPrintableCountMatchesSpecIntervalsSpec) :=
  OpenClaim.holds_of_wide 4 Try.f4 rfl rfl rfl rfl rfl rfl rfl ⟨rfl, rfl, rfl, rfl, rfl⟩ rfl rfl rfl rfl rfl (by kernel_rfl) Try.func4 (by kernel_rfl)
    (of_decide_eq_true (by kernel_rfl)) (by unfold Func.isWrapper; first | (rw [if_pos (by decide +kernel)]; kernel_rfl) | (rw [if_neg (by decide +kernel)]; exact ⟨rfl, rfl⟩))
    (fun os started H enc _ => lifted os started H enc)

/-- ████ THE STATEMENT ████ -/
theorem proved : Rows.FnPrintableCountMatchesSpecIntervalsSaid :=
  over
#print axioms proved
end Go.Proofs.Qxb6605761a.fnPrintableCountMatchesSpecIntervals
