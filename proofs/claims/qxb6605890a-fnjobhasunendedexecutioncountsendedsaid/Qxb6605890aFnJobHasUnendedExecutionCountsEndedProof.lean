/-
  FnJobHasUnendedExecutionCountsEnded: the proof: the law out of its callees' contracts; the frame is the skeleton's for slices, turned to strings.
-/
import Derived.Test.Qxb6605890aOpen
import Derived.Test.Qxb6605890aClone
import Derived.Test.Qxb6605890aEnded
import Derived.Test.Qxb6605890aJobOf
import Derived.Test.Qxb6605890aUnended
import Derived.WalkKit
import Derived.ProofKit
import Derived.OpenShut
import Derived.ShutString
import Derived.ChangeOld
import Derived.Below
namespace Go.Proofs.Qxb6605890a.fnJobHasUnendedExecutionCountsEnded
open Go.ChangeShapes Go.WideShapes Go.ChangeAt Go.RowKit
open Go.ChangeMaps (open_string shut_string)
set_option linter.unusedVariables false


/-! ### The walk -/
set_option maxHeartbeats 1000000 in
theorem walk (a0 : Option Addr) (cap0 : Nat) (ss : List ByteArray) (w : World) (A : V.Arg w a0 ss.length ss) :
    Calls Try.prog 3 #[.slice a0 ss.length cap0] w fun e w' => e = .returned (.bool true) ∧ Below w.heap.size w w' := by
  have hu := V.hide (V.un_ce ss)
  go_enter Try.func3, Try.ntmps3
  go_wp2_with fail
  refine (V.zz7 _ _ _ _ A.strs A.max A.each).mono ?_
  rintro e w' ⟨⟨r, rfl⟩, rfl⟩
  cases r
  · go_wp2_with fail
    go_ret
    exact ⟨rfl, Below.refl _ _⟩
  go_wp2_with fail
  refine (V.stringsBytes_any _ _ _ _ A.strs A.max A.each).mono ?_
  rintro e w' ⟨⟨t, rfl, ht⟩, rfl⟩
  by_cases hbig : 1048576 < t
  · go_wp2_with fail
    go_ret
    exact ⟨rfl, Below.refl _ _⟩
  have hsm := (ht.small (by omega)).2
  have hn : ss.length ≤ 65536 := by omega
  clear hsm
  go_wp2_with fail
  refine (V.clone_any _ _ _ _ A.strs hn A.nil).mono ?_
  rintro e w1 ⟨⟨ao, rfl, hS⟩, hb1⟩
  go_wp2_with fail
  refine (V.jobOf_any _ _ _ _ hS hn).mono ?_
  rintro e w2 ⟨⟨g, cap, rfl, hE⟩, hb2⟩
  go_wp2_with fail
  refine (V.unended_any _ _ _ _ hE hn).mono ?_
  rintro e w3 ⟨rfl, hb3⟩
  go_wp2_with fail
  refine (V.countEnded_any _ _ _ _ ((hS.below hb2).below hb3) hn).mono ?_
  rintro e w4 ⟨rfl, rfl⟩
  go_wp2_with fail
  go_ret
  exact ⟨V.ret_bool (by rw [hu.out]; simp), (hb1.trans (hb2.mono hb1.size)).trans (hb3.mono (Nat.le_trans hb1.size hb2.size))⟩

/-! ### THE ROW's STEP: WRITTEN OUT -/
set_option maxRecDepth 100000 in
theorem lifted (os : Os) (started : os.Started) (H : Type) (enc : TypeId × Value → H) :
    ReturnsInHanded {} Try.checked os 3 .any (Rows.fnJobHasUnendedExecutionCountsEndedSpec.pre6 enc Try.prog Try.f3 Rows.fnJobHasUnendedExecutionCountsEndedRow.domain false) (Rows.fnJobHasUnendedExecutionCountsEndedSpec.post enc Try.prog Try.f3 false true false false) := by
  refine returnsInHanded_of_change (C := Try.checked) V.own started (by kernel_rfl) Try.func3
    (ChangeSpec.witness6 (enc := enc) (C := Try.checked) false ⟨#[], #[.slice none 0 0], []⟩ 8 (by kernel_rfl) (by kernel_rfl) (by kernel_rfl) (by kernel_rfl)) ?_
  intro W base args ds gs before hval0 hW hcnd _
  have hval : ∀ (j : Nat) t v, Try.f3.params[j]? = some t → args[j]? = some v → Value.okWide Try.prog W .any base t v := hval0
  have hW' := hW
  obtain ⟨p, q, hA0, hV, rfl, hfz, hnd⟩ := hW
  have hA : DataW.TrodAll enc Try.prog W 0 (fun _ => true) true Try.f3.params.toList args.toList ds p := hA0
  rw [Try.params3] at hA hval
  obtain ⟨v0, vs0, d0, ds0, p0, q0, hargs, rfl, rfl, h0, r0⟩ := trodAll_cons hA
  obtain ⟨rfl, rfl, rfl⟩ := trodAll_nil r0
  obtain rfl : args = #[v0] := by cases args; simp_all
  obtain ⟨rfl, rfl⟩ := trodVars_none hV
  obtain ⟨a0, len0, cap0, rfl⟩ := okWide_slice Try.underlying22 (hval 0 22 v0 rfl rfl)
  have k0 := h0
  have lt0 : ∀ x ∈ p0, x.block < W.heap.size := by obtain ⟨m, hm⟩ := k0; exact DataW.trod_lt m _ _ _ hm
  obtain ⟨ss, A⟩ := V.arg_open h0
  obtain rfl := A.len
  clear hA0 hval0
  refine (walk a0 cap0 ss W A).mono fun e W' ⟨he, bel⟩ => ?_
  subst he
  exact ⟨_, rfl, _, _, _, [], _, [], hW', trodAll_mk1 (shut_bool Try.underlying4 _), (trodAll_cons_mk (Below.trod V.laidOut (by kernel_rfl) (of_decide_eq_true (by kernel_rfl)) k0 bel lt0) trodAll_mk0), rfl, bel.frame _, fun h => by cases h⟩

theorem over : Rows.fnJobHasUnendedExecutionCountsEndedRow.holds Try.pinned (OpenSpec.ofChange Rows.fnJobHasUnendedExecutionCountsEndedSpec) :=
  OpenClaim.holds_of_wide 3 Try.f3 rfl rfl rfl rfl rfl rfl rfl ⟨rfl, rfl, rfl, rfl, rfl⟩ rfl rfl rfl rfl rfl (by kernel_rfl) Try.func3 (by kernel_rfl)
    (of_decide_eq_true (by kernel_rfl)) (by unfold Func.isWrapper; first | (rw [if_pos (by decide +kernel)]; kernel_rfl) | (rw [if_neg (by decide +kernel)]; exact ⟨rfl, rfl⟩))
    (fun os started H enc _ => lifted os started H enc)

/-- ████ THE STATEMENT ████ -/
theorem proved : Rows.FnJobHasUnendedExecutionCountsEndedSaid := over
#print axioms proved
end Go.Proofs.Qxb6605890a.fnJobHasUnendedExecutionCountsEnded
