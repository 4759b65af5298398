/-
  FnParamKeysLengthAndEnds: the proof: the law out of its callees' contracts; the frame is the skeleton's for slices, turned to strings.
-/
import Derived.Test.Qxb6605890aOpen
import Derived.Test.Qxb6605890aClone
import Derived.Test.Qxb6605890aKeys
import Derived.Test.Qxb6605890aSayLaws
import Derived.Test.Qxb6605890aEnds
import Derived.WalkKit
import Derived.ProofKit
import Derived.OpenShut
import Derived.ShutString
import Derived.ChangeOld
import Derived.Below
namespace Go.Proofs.Qxb6605890a.fnParamKeysLengthAndEnds
open Go.ChangeShapes Go.WideShapes Go.ChangeAt Go.RowKit
open Go.ChangeMaps (open_string shut_string)
set_option linter.unusedVariables false


theorem begins {G s : ByteArray} {l : List UInt8} (h : G.data.toList = s.data.toList ++ l) : ∃ hl : s.size ≤ G.size, ∀ i (hi : i < s.size), G[i]'(Nat.lt_of_lt_of_le hi hl) = s[i] := by
  have hl : s.size ≤ G.size := by
    have := congrArg List.length h
    rw [List.length_append, Array.length_toList, Array.length_toList] at this
    show s.data.size ≤ G.data.size
    omega
  refine ⟨hl, fun i hi => ?_⟩
  have e1 := V.at_get G i (Nat.lt_of_lt_of_le hi hl)
  have e2 := V.at_get s i hi
  rw [h, List.getElem?_append_left (by rw [Array.length_toList]; exact hi), e2] at e1
  exact (Option.some.inj e1).symm

theorem ends {G p : ByteArray} {l : List UInt8} (h : G.data.toList = l ++ p.data.toList) : ∃ hl : l.length + p.size ≤ G.size, G.size ≤ l.length + p.size ∧ ∀ i (hi : i < p.size), G[l.length + i]'(by omega) = p[i] := by
  have hs : G.size = l.length + p.size := by
    have := congrArg List.length h
    rw [List.length_append, Array.length_toList, Array.length_toList] at this
    exact this
  refine ⟨by omega, by omega, fun i hi => ?_⟩
  have e1 := V.at_get G (l.length + i) (by omega)
  have e2 := V.at_get p i hi
  rw [h, List.getElem?_append_right (by omega), Nat.add_sub_cancel_left, e2] at e1
  exact (Option.some.inj e1).symm

theorem eqL {a b : ByteArray} (h : a.data.toList = b.data.toList) : (a.toList == b.toList) = true := by
  rw [ByteArray.toList_eq, ByteArray.toList_eq, h]; simp

/-! ### The walk -/
set_option maxHeartbeats 2000000 in
theorem walk (a0 : Option Addr) (cap0 : Nat) (ss : List ByteArray) (w : World) (A : V.Arg w a0 ss.length ss) :
    Calls Try.prog 6 #[.slice a0 ss.length cap0] w fun e w' => e = .returned (.bool true) ∧ Below w.heap.size w w' := by
  go_enter Try.func6, Try.ntmps6
  go_wp2_with fail
  refine (V.zz17 _ _ _ _ A.strs A.max A.each).mono ?_
  rintro e w' ⟨⟨r, rfl⟩, rfl⟩
  cases r
  · go_wp2_with fail
    go_ret
    exact ⟨rfl, Below.refl _ _⟩
  go_wp2_with fail
  refine (V.stringsBytes_any _ _ _ _ A.strs A.max A.each).mono ?_
  rintro e w' ⟨⟨t, rfl, ht⟩, rfl⟩
  by_cases hbig : 1048576 < t
  · go_wp2_with fail
    go_ret
    exact ⟨rfl, Below.refl _ _⟩
  have hsm := (ht.small (by omega)).2
  have hn : ss.length ≤ 65536 := by omega
  have hz : V.sz ss ≤ 1048576 := by omega
  clear hsm
  go_wp2_with fail
  refine (V.clone_any _ _ _ _ A.strs hn A.nil).mono ?_
  rintro e w1 ⟨⟨ao, rfl, hS⟩, hb1⟩
  go_wp2_with fail
  refine (V.paramsOf_any _ _ _ _ hS hn).mono ?_
  rintro e w2 ⟨⟨g, cap, rfl, hP⟩, hb2⟩
  go_wp2_with fail
  refine (V.ZZparamKeys_any _ _ _ _ hP hn hz).mono ?_
  rintro e w3 ⟨rfl, hb3⟩
  have hS := (hS.below hb2).below hb3
  have hB := (hb1.trans (hb2.mono hb1.size)).trans (hb3.mono (Nat.le_trans hb1.size hb2.size))
  have HB := V.hid hB
  have hsz := hB.size
  clear hb1 hb2 hb3 hP hB ht hbig
  have hG : Hid ((⟨(V.say ss).toArray⟩ : ByteArray).data.toList = V.say ss) := rfl
  generalize (⟨(V.say ss).toArray⟩ : ByteArray) = G at hG ⊢
  rcases (show ss.length = 0 ∨ ss.length = 1 ∨ 2 ≤ ss.length by omega) with hL | hL | hL
  · have q : (G.toList == [110, 111, 110, 101]) = true := by rw [ByteArray.toList_eq, hG.out, V.say_zero hL]; rfl
    clear hG hS
    go_wp2_with fail
    go_ret
    exact ⟨rfl, HB.out⟩
  · obtain ⟨b, off, hao, hbk, hc0⟩ := hS.at 0 (by omega)
    have q : (G.toList == (ss.getD 0 ByteArray.empty).toList) = true := eqL (by rw [hG.out, V.say_one hL])
    generalize ss.getD 0 ByteArray.empty = s at hc0 q
    subst hao
    rw [Nat.add_zero] at hc0
    clear hG hS
    go_wp2_with fail
    go_ret
    exact ⟨rfl, HB.out⟩
  · rcases hS with rfl | ⟨b, off, hao, hbk, hc⟩
    · simp at hL
    subst hao
    have Hc := V.hid hc
    have f1 : ((ss.length : Int) == 0) = false := beq_eq_false_iff_ne.2 (by omega)
    have f2 : ((ss.length : Int) == 1) = false := beq_eq_false_iff_ne.2 (by omega)
    clear hc
    go_wp2_with fail
    go_loop [5, 6] (fun z i => ∃ k : Nat, k ≤ ss.length ∧ i = .int .i64 k ∧ z = .int .i64 (V.sz (ss.take k))) (fun _ i => ss.length - (intOf i).toNat)
    case atStart => exact ⟨0, Nat.zero_le _, rfl, rfl⟩
    case round =>
      obtain ⟨k, hk, rfl, rfl⟩ := hrel
      by_cases hlt : k < ss.length
      · have hck := Hc.out k hlt
        have hst := V.hid (V.sz_snoc ss k hlt)
        have hle := V.sz_take_le ss k
        have hsm := V.sz_mem ss k hlt
        generalize ss.getD k ByteArray.empty = s at hck hst hsm
        generalize V.sz (ss.take k) = z at hst hle
        generalize V.sz ss = Z at hle hsm hz
        go_wp2
        go_round
        case rel => exact ⟨k + 1, by omega, by go_num, by rw [hst.out]; go_num⟩
        case measure => simp [intOf]; omega
      · obtain rfl : k = ss.length := by omega
        rw [List.take_length]
        obtain ⟨m, hm⟩ : ∃ m, ss.length = m + 2 := ⟨ss.length - 2, by omega⟩
        have hc0 := Hc.out 0 (by omega)
        rw [Nat.add_zero] at hc0
        have hc1 := Hc.out (m + 1) (by omega)
        have hlen := V.say_length hL
        have hGs : G.size = (V.say ss).length := by rw [← hG.out]; exact Array.length_toList.symm
        obtain ⟨l1, hb1⟩ := V.say_begins hL
        obtain ⟨l2, he1⟩ := V.say_ends hL
        have hidx : ss.length - 1 = m + 1 := by omega
        rw [hidx] at he1
        have m0 := V.sz_mem ss 0 (by omega)
        have m1 := V.sz_mem ss (m + 1) (by omega)
        generalize ss.getD 0 ByteArray.empty = s at hc0 hb1 m0
        generalize ss.getD (m + 1) ByteArray.empty = u at hc1 he1 m1
        have hss : s.size ≤ 1048576 := by omega
        have huu : u.size ≤ 1048576 := by omega
        have B1 := V.hid (begins (G := G) (s := s) (l := l1) (by rw [hG.out, hb1]))
        have B2 := V.hid (ends (G := G) (p := ⟨#[32, 97, 110, 100, 32]⟩ ++ u) (l := l2) (by rw [hG.out, he1, V.data_add]))
        have hGm : G.size ≤ 4000000 := by omega
        have q1 : ((G.size : Int) == (V.sz ss : Int) + 2 * ((m : Int) + 2 - 2) + 5) = true := by rw [hGs, hlen, hm]; rw [beq_iff_eq]; omega
        have q2 : ((G.size : Int) == (V.sz ss : Int) + 2 * (m : Int) + 5) = true := by rw [hGs, hlen, hm]; rw [beq_iff_eq]; omega
        have a1 := V.add_run Try.prog ⟨#[32, 97, 110, 100, 32]⟩ u (by decide) (by omega)
        have hm6 : m ≤ 65534 := by omega
        generalize V.sz ss = Z at hz q1 q2
        clear hlen hGs hb1 he1 m0 m1 hidx hG Hc hL hk hlt
        go_wp2_with fail
        obtain ⟨k1, k2⟩ := B1.out
        refine (V.startsWith_yes G s _ hGm k1 k2).mono ?_
        rintro e w4 ⟨rfl, hb4⟩
        have hc1' := (hb4.cell (p := ⟨b, off + (m + 1), none⟩) hbk).trans hc1
        have H4 := V.hid hb4
        have hsz4 := hb4.size
        clear hc0 hc1 hb4 k2
        go_wp2_with fail
        obtain ⟨k3, k4, k5⟩ := B2.out
        refine (V.endsWith_yes G ((⟨#[32, 97, 110, 100, 32]⟩ : ByteArray) ++ u) l2.length _ hGm k4 k3 k5).mono ?_
        rintro e w5 ⟨rfl, hb5⟩
        have H5 := V.hid hb5
        clear hb5 k5
        go_wp2_with fail
        go_ret
        exact ⟨rfl, (HB.out.trans (H4.out.mono hsz)).trans (H5.out.mono (Nat.le_trans hsz hsz4))⟩

/-! ### THE ROW's STEP: WRITTEN OUT -/
set_option maxRecDepth 100000 in
theorem lifted (os : Os) (started : os.Started) (H : Type) (enc : TypeId × Value → H) :
    ReturnsInHanded {} Try.checked os 6 .any (Rows.fnParamKeysLengthAndEndsSpec.pre6 enc Try.prog Try.f6 Rows.fnParamKeysLengthAndEndsRow.domain false) (Rows.fnParamKeysLengthAndEndsSpec.post enc Try.prog Try.f6 false true false false) := by
  refine returnsInHanded_of_change (C := Try.checked) V.own started (by kernel_rfl) Try.func6
    (ChangeSpec.witness6 (enc := enc) (C := Try.checked) false ⟨#[], #[.slice none 0 0], []⟩ 8 (by kernel_rfl) (by kernel_rfl) (by kernel_rfl) (by kernel_rfl)) ?_
  intro W base args ds gs before hval0 hW hcnd _
  have hval : ∀ (j : Nat) t v, Try.f6.params[j]? = some t → args[j]? = some v → Value.okWide Try.prog W .any base t v := hval0
  have hW' := hW
  obtain ⟨p, q, hA0, hV, rfl, hfz, hnd⟩ := hW
  have hA : DataW.TrodAll enc Try.prog W 0 (fun _ => true) true Try.f6.params.toList args.toList ds p := hA0
  rw [Try.params6] at hA hval
  obtain ⟨v0, vs0, d0, ds0, p0, q0, hargs, rfl, rfl, h0, r0⟩ := trodAll_cons hA
  obtain ⟨rfl, rfl, rfl⟩ := trodAll_nil r0
  obtain rfl : args = #[v0] := by cases args; simp_all
  obtain ⟨rfl, rfl⟩ := trodVars_none hV
  obtain ⟨a0, len0, cap0, rfl⟩ := okWide_slice Try.underlying22 (hval 0 22 v0 rfl rfl)
  have k0 := h0
  have lt0 : ∀ x ∈ p0, x.block < W.heap.size := by obtain ⟨m, hm⟩ := k0; exact DataW.trod_lt m _ _ _ hm
  obtain ⟨ss, A⟩ := V.arg_open h0
  obtain rfl := A.len
  clear hA0 hval0
  refine (walk a0 cap0 ss W A).mono fun e W' ⟨he, bel⟩ => ?_
  subst he
  exact ⟨_, rfl, _, _, _, [], _, [], hW', trodAll_mk1 (shut_bool Try.underlying4 _), (trodAll_cons_mk (Below.trod V.laidOut (by kernel_rfl) (of_decide_eq_true (by kernel_rfl)) k0 bel lt0) trodAll_mk0), rfl, bel.frame _, fun h => by cases h⟩

theorem over : Rows.fnParamKeysLengthAndEndsRow.holds Try.pinned (OpenSpec.ofChange Rows.fnParamKeysLengthAndEndsSpec) :=
  OpenClaim.holds_of_wide 6 Try.f6 rfl rfl rfl rfl rfl rfl rfl ⟨rfl, rfl, rfl, rfl, rfl⟩ rfl rfl rfl rfl rfl (by kernel_rfl) Try.func6 (by kernel_rfl)
    (of_decide_eq_true (by kernel_rfl)) (by unfold Func.isWrapper; first | (rw [if_pos (by decide +kernel)]; kernel_rfl) | (rw [if_neg (by decide +kernel)]; exact ⟨rfl, rfl⟩))
    (fun os started H enc _ => lifted os started H enc)

/-- ████ THE STATEMENT ████ -/
theorem proved : Rows.FnParamKeysLengthAndEndsSaid := over
#print axioms proved
end Go.Proofs.Qxb6605890a.fnParamKeysLengthAndEnds
