/-
  FnJobHasUnendedExecutionJoins: the proof: the law out of its callees' contracts; the frame is the skeleton's for slices, turned to strings.
-/
import Derived.Test.Qxb6605890aOpen
import Derived.Test.Qxb6605890aClone
import Derived.Test.Qxb6605890aEnded
import Derived.Test.Qxb6605890aJobOf
import Derived.Test.Qxb6605890aUnended
import Derived.Test.Qxb6605890aZz13
import Derived.WalkKit
import Derived.ProofKit
import Derived.OpenShut
import Derived.ShutString
import Derived.ChangeOld
import Derived.Below
namespace Go.Proofs.Qxb6605890a.fnJobHasUnendedExecutionJoins
open Go.ChangeShapes Go.WideShapes Go.ChangeAt Go.RowKit
open Go.ChangeMaps (open_string shut_string)
set_option linter.unusedVariables false


/-! ### The walk -/
theorem ret_true {b : Bool} (h : b = true) : Ending.returned (.bool b) = .returned (.bool true) := by rw [h]

theorem map_snoc (ss : List ByteArray) (k : Nat) (h : k < ss.length) : (ss.take (k + 1)).map Value.string = (ss.take k).map Value.string ++ [.string (ss.getD k ByteArray.empty)] := by
  rw [V.take_snoc ss k h, List.map_append]; rfl

theorem app_snoc (a ss : List ByteArray) (k : Nat) (h : k < ss.length) : (a ++ ss.take (k + 1)).map Value.string = (a ++ ss.take k).map Value.string ++ [.string (ss.getD k ByteArray.empty)] := by
  rw [V.take_snoc ss k h, ← List.append_assoc, List.map_append]; rfl

theorem one_str (s : ByteArray) : ∀ u ∈ [Value.string s], u.oneCell' = true := by
  intro u hu
  simp only [List.mem_cons, List.not_mem_nil, or_false] at hu
  subst hu
  rfl

set_option maxHeartbeats 2000000 in
theorem walk (a0 : Option Addr) (cap0 : Nat) (s0 : List ByteArray) (a1 : Option Addr) (cap1 : Nat) (s1 : List ByteArray) (w : World) (A : V.Arg w a0 s0.length s0) (B : V.Arg w a1 s1.length s1) :
    Calls Try.prog 4 #[.slice a0 s0.length cap0, .slice a1 s1.length cap1] w fun e w' => e = .returned (.bool true) ∧ Below w.heap.size w w' := by
  obtain ⟨i0, hi, hz0, hz1, hz2⟩ := info_parts V.Try.info9
  go_enter Try.func4, Try.ntmps4
  go_wp2_with fail
  refine (V.zz13 _ _ _ _ _ _ _ A.strs A.max A.each B.strs B.max B.each).mono ?_
  rintro e w' ⟨⟨r, rfl⟩, rfl⟩
  cases r
  · go_wp2_with fail
    go_ret
    exact ⟨rfl, Below.refl _ _⟩
  go_wp2_with fail
  refine (V.stringsBytes_any _ _ _ _ A.strs A.max A.each).mono ?_
  rintro e w' ⟨⟨t, rfl, ht⟩, rfl⟩
  go_wp2_with fail
  refine (V.stringsBytes_any _ _ _ _ B.strs B.max B.each).mono ?_
  rintro e w' ⟨⟨t', rfl, ht'⟩, rfl⟩
  obtain ⟨lt1, lt2⟩ := ht.bd
  obtain ⟨lt3, lt4⟩ := ht'.bd
  by_cases hbig : 1048576 < t + t'
  · go_wp2_with fail
    go_ret
    exact ⟨rfl, Below.refl _ _⟩
  have hsm : s0.length + s1.length ≤ 65536 := by
    have h1 := ht.small (by omega)
    have h2 := ht'.small (by omega)
    omega
  have hn0 : s0.length ≤ 65536 := by omega
  have hn1 : s1.length ≤ 65536 := by omega
  go_wp2_with fail
  refine (V.clone_any _ _ _ _ A.strs hn0 A.nil).mono ?_
  rintro e w1 ⟨⟨ao, rfl, hS0⟩, hb1⟩
  go_wp2_with fail
  refine (V.clone_any _ _ _ _ (B.strs.below hb1) hn1 B.nil).mono ?_
  rintro e w2 ⟨⟨ao', rfl, hS1⟩, hb2⟩
  have hS0 := hS0.below hb2
  have hB := hb1.trans (hb2.mono hb1.size)
  have hsz := hB.size
  clear hb1 hb2 ht ht' lt1 lt2 lt3 lt4
  go_wp2_with (at_make; refine wpList_make_own _ rfl _ _ 22 rfl w2.heap.size 9 i0 _ 1 Try.underlying22 hi hz0 hz1 _ _ _ (s0.length + s1.length) rfl rfl (by omega) (by rw [hz2]; omega) (by unfold maxLen; omega) (Nat.le_refl _) ?_; intro w3 hown hgrow)
  have hB3 : Below w2.heap.size w2 w3 := (Below.refl _ _).grown hgrow (Nat.le_refl _) (fun k hk => by cases hk)
  clear hgrow
  generalize hN : s0.length + s1.length = N at *
  have HN := V.hide hN
  clear hN
  go_loopw [5, 6] (fun v i wr => ∃ k : Nat, k ≤ s0.length ∧ i = .int .i64 k ∧ v = .slice (some ⟨w2.heap.size, 0, none⟩) k N ∧ wr.ownsRow w2.heap.size 9 1 (.slice (some ⟨w2.heap.size, 0, none⟩) k N) k ((s0.take k).map Value.string) ∧ Below w2.heap.size w2 wr) (fun _ i _ => s0.length - (intOf i).toNat)
  case atStart => exact ⟨0, Nat.zero_le _, rfl, rfl, hown, hB3⟩
  case round =>
    obtain ⟨k, hk, rfl, rfl, hw, hbr⟩ := hrel
    clear hown hB3
    have hszr := hbr.size
    have hNN := HN.out
    by_cases hlt : k < s0.length
    · obtain ⟨b, off, hao, _, hck⟩ := (hS0.below hbr).at k hlt
      have hst := V.hide (map_snoc s0 k hlt)
      generalize s0.getD k ByteArray.empty = s at hck hst
      subst hao
      have hroom : k + 1 ≤ N := by omega
      clear hNN
      go_wp2_with (at_builtin; refine wpList_append_fits _ rfl _ _ 22 rfl w2.heap.size 9 i0 1 Try.underlying22 hi hz1 w2.heap.size k N _ rfl (hw.alloc _) ⟨wr.heap.size, 0, none⟩ 1 1 [.string s] rfl rfl (cell_one_new _ _ _) (one_str s) hroom ?_; intro w4 hown4 hgrow4)
      rw [← hst.out] at hown4
      have H1 := V.hide hown4
      have H2 := V.hide ((hbr.alloc hszr _).grown hgrow4 (by simp; omega) (fun j hj => by cases hj; exact Nat.le_refl _))
      clear hown4 hgrow4 hw hbr
      go_wp2
      go_roundw
      case rel => exact ⟨k + 1, by omega, by go_num, rfl, H1.out, H2.out⟩
      case measure => simp [intOf]; omega
    · obtain rfl : k = s0.length := by omega
      rw [List.take_length] at hw
      clear hNN
      obtain ⟨wo, rfl⟩ : ∃ wo : World, wo = wr := ⟨_, rfl⟩
      obtain ⟨ab, hab⟩ : ∃ ab : List ByteArray, ab = s0 ++ s1 := ⟨_, rfl⟩
      have Hab := V.hide hab
      have hL : ab.length = N := by rw [hab, List.length_append]; exact HN.out
      clear hab
      have HL := V.hide hL
      clear hL
      go_wp2
      go_loopw [5, 7] (fun v i wr => ∃ k m : Nat, k ≤ s1.length ∧ Hid (m = s0.length + k) ∧ i = .int .i64 k ∧ v = .slice (some ⟨w2.heap.size, 0, none⟩) m N ∧ wr.ownsRow w2.heap.size 9 1 (.slice (some ⟨w2.heap.size, 0, none⟩) m N) m ((s0 ++ s1.take k).map Value.string) ∧ Below w2.heap.size w2 wr) (fun _ i _ => s1.length - (intOf i).toNat)
      case atStart => exact ⟨0, s0.length, Nat.zero_le _, rfl, rfl, rfl, by rw [List.take_zero, List.append_nil]; exact hw, hbr⟩
      case round =>
        clear hw hbr hszr
        obtain ⟨k, m, hk, Hm, rfl, rfl, hw, hbr⟩ := hrel
        have hszr := hbr.size
        by_cases hlt : k < s1.length
        · obtain ⟨b, off, hao, _, hck⟩ := (hS1.below hbr).at k hlt
          have hst := V.hide (app_snoc s0 s1 k hlt)
          generalize s1.getD k ByteArray.empty = s at hck hst
          subst hao
          have hroom : m + 1 ≤ N := by have := HN.out; have := Hm.out; omega
          go_wp2_with (at_builtin; refine wpList_append_fits _ rfl _ _ 22 rfl w2.heap.size 9 i0 1 Try.underlying22 hi hz1 w2.heap.size m N _ rfl (hw.alloc _) ⟨wr.heap.size, 0, none⟩ 1 1 [.string s] rfl rfl (cell_one_new _ _ _) (one_str s) hroom ?_; intro w4 hown4 hgrow4)
          rw [← hst.out] at hown4
          have H1 := V.hide hown4
          have H2 := V.hide ((hbr.alloc hszr _).grown hgrow4 (by simp; omega) (fun j hj => by cases hj; exact Nat.le_refl _))
          clear hown4 hgrow4 hw hbr
          go_wp2
          go_roundw
          case rel => exact ⟨k + 1, m + 1, by omega, by have := Hm.out; show m + 1 = _; omega, by go_num, rfl, H1.out, H2.out⟩
          case measure => simp [intOf]; omega
        · obtain rfl : k = s1.length := by omega
          rw [List.take_length, ← Hab.out] at hw
          obtain rfl : m = ab.length := by rw [Hm.out, HL.out]; exact HN.out
          have hSab := V.Strs.of_owns hw
          have hnab : ab.length ≤ 65536 := by rw [HL.out]; have := HN.out; omega
          have hS0r := hS0.below hbr
          have hS1r := hS1.below hbr
          have hBr := hB.trans (hbr.mono hsz)
          have u0 := V.un_ce s0
          have uab : V.un ab = (V.un s0 || V.un s1) := by rw [Hab.out]; exact V.un_add s0 s1
          have U0 := V.hide u0
          have Uab := V.hide uab
          clear u0 uab hw hbr hszr
          go_wp2_with fail
          refine (V.jobOf_any _ _ _ _ hS0r hn0).mono ?_
          rintro e x1 ⟨⟨g1, c1, rfl, hE1⟩, hx1⟩
          go_wp2_with fail
          refine (V.unended_any _ _ _ _ hE1 hn0).mono ?_
          rintro e x2 ⟨rfl, hx2⟩
          go_wp2_with fail
          refine (V.jobOf_any _ _ _ _ ((hS1r.below hx1).below hx2) hn1).mono ?_
          rintro e x3 ⟨⟨g2, c2, rfl, hE2⟩, hx3⟩
          go_wp2_with fail
          refine (V.unended_any _ _ _ _ hE2 hn1).mono ?_
          rintro e x4 ⟨rfl, hx4⟩
          have hx := ((hx1.trans (hx2.mono hx1.size)).trans (hx3.mono (Nat.le_trans hx1.size hx2.size))).trans (hx4.mono (Nat.le_trans (Nat.le_trans hx1.size hx2.size) hx3.size))
          clear hx1 hx2 hx3 hx4 hE1 hE2
          go_wp2_with fail
          refine (V.jobOf_any _ _ _ _ (hSab.below hx) hnab).mono ?_
          rintro e x5 ⟨⟨g3, c3, rfl, hE3⟩, hx5⟩
          go_wp2_with fail
          refine (V.unended_any _ _ _ _ hE3 hnab).mono ?_
          rintro e x6 ⟨rfl, hx6⟩
          have hy := (hx.trans (hx5.mono hx.size)).trans (hx6.mono (Nat.le_trans hx.size hx5.size))
          clear hx hx5 hx6 hE3
          go_wp2_with fail
          refine (V.countEnded_any _ _ _ _ (hS0r.below hy) hn0).mono ?_
          rintro e x7 ⟨rfl, rfl⟩
          have F := V.hide (hBr.trans (hy.mono hBr.size))
          clear hy hBr hS0r hS1r hSab
          have q0 := U0.out
          have qab := Uab.out
          cases h0 : V.un s0
          all_goals cases h1 : V.un s1
          all_goals
            rw [h0] at q0 qab
            rw [h1] at qab
            have q1 := q0.symm
            clear q0
            go_wp2_with fail
            go_ret
            exact ⟨rfl, F.out⟩

/-! ### THE ROW's STEP: WRITTEN OUT -/
set_option maxRecDepth 100000 in
theorem lifted (os : Os) (started : os.Started) (H : Type) (enc : TypeId × Value → H) :
    ReturnsInHanded {} Try.checked os 4 .any (Rows.fnJobHasUnendedExecutionJoinsSpec.pre6 enc Try.prog Try.f4 Rows.fnJobHasUnendedExecutionJoinsRow.domain false) (Rows.fnJobHasUnendedExecutionJoinsSpec.post enc Try.prog Try.f4 false true false false) := by
  refine returnsInHanded_of_change (C := Try.checked) V.own started (by kernel_rfl) Try.func4
    (ChangeSpec.witness6 (enc := enc) (C := Try.checked) false ⟨#[], #[.slice none 0 0, .slice none 0 0], []⟩ 8 (by kernel_rfl) (by kernel_rfl) (by kernel_rfl) (by kernel_rfl)) ?_
  intro W base args ds gs before hval0 hW hcnd _
  have hval : ∀ (j : Nat) t v, Try.f4.params[j]? = some t → args[j]? = some v → Value.okWide Try.prog W .any base t v := hval0
  have hW' := hW
  obtain ⟨p, q, hA0, hV, rfl, hfz, hnd⟩ := hW
  have hA : DataW.TrodAll enc Try.prog W 0 (fun _ => true) true Try.f4.params.toList args.toList ds p := hA0
  rw [Try.params4] at hA hval
  obtain ⟨v0, vs0, d0, ds0, p0, q0, hargs, rfl, rfl, h0, r0⟩ := trodAll_cons hA
  obtain ⟨v1, vs1, d1, ds1, p1, q1, rfl, rfl, rfl, h1, r1⟩ := trodAll_cons r0
  obtain ⟨rfl, rfl, rfl⟩ := trodAll_nil r1
  obtain rfl : args = #[v0, v1] := by cases args; simp_all
  obtain ⟨rfl, rfl⟩ := trodVars_none hV
  obtain ⟨a0, len0, cap0, rfl⟩ := okWide_slice Try.underlying22 (hval 0 22 v0 rfl rfl)
  have k0 := h0
  have lt0 : ∀ x ∈ p0, x.block < W.heap.size := by obtain ⟨m, hm⟩ := k0; exact DataW.trod_lt m _ _ _ hm
  obtain ⟨s0, A0⟩ := V.arg_open h0
  obtain rfl := A0.len
  obtain ⟨a1, len1, cap1, rfl⟩ := okWide_slice Try.underlying22 (hval 1 22 v1 rfl rfl)
  have k1 := h1
  have lt1 : ∀ x ∈ p1, x.block < W.heap.size := by obtain ⟨m, hm⟩ := k1; exact DataW.trod_lt m _ _ _ hm
  obtain ⟨s1, A1⟩ := V.arg_open h1
  obtain rfl := A1.len
  clear hA0 hval0
  refine (walk a0 cap0 s0 a1 cap1 s1 W A0 A1).mono fun e W' ⟨he, bel⟩ => ?_
  subst he
  exact ⟨_, rfl, _, _, _, [], _, [], hW', trodAll_mk1 (shut_bool Try.underlying4 _), (trodAll_cons_mk (Below.trod V.laidOut (by kernel_rfl) (of_decide_eq_true (by kernel_rfl)) k0 bel lt0) (trodAll_cons_mk (Below.trod V.laidOut (by kernel_rfl) (of_decide_eq_true (by kernel_rfl)) k1 bel lt1) trodAll_mk0)), rfl, bel.frame _, fun h => by cases h⟩

theorem over : Rows.fnJobHasUnendedExecutionJoinsRow.holds Try.pinned (OpenSpec.ofChange Rows.fnJobHasUnendedExecutionJoinsSpec) :=
  OpenClaim.holds_of_wide 4 Try.f4 rfl rfl rfl rfl rfl rfl rfl ⟨rfl, rfl, rfl, rfl, rfl⟩ rfl rfl rfl rfl rfl (by kernel_rfl) Try.func4 (by kernel_rfl)
    (of_decide_eq_true (by kernel_rfl)) (by unfold Func.isWrapper; first | (rw [if_pos (by decide +kernel)]; kernel_rfl) | (rw [if_neg (by decide +kernel)]; exact ⟨rfl, rfl⟩))
    (fun os started H enc _ => lifted os started H enc)

/-- ████ THE STATEMENT ████ -/
theorem proved : Rows.FnJobHasUnendedExecutionJoinsSaid := over
#print axioms proved
end Go.Proofs.Qxb6605890a.fnJobHasUnendedExecutionJoins
