/-
  FnParamKeysSaysTheList: the proof: the law out of its callees' contracts; the frame is the skeleton's for slices, turned to strings.
-/
import Derived.Test.Qxb6605890aOpen
import Derived.Test.Qxb6605890aClone
import Derived.Test.Qxb6605890aKeys
import Derived.Test.Qxb6605890aSayLaws
import Derived.Deep.RegionHeld3
import Derived.WalkKit
import Derived.ProofKit
import Derived.OpenShut
import Derived.ShutString
import Derived.ChangeOld
import Derived.Below
namespace Go.Proofs.Qxb6605890a.fnParamKeysSaysTheList
open Go.ChangeShapes Go.WideShapes Go.ChangeAt Go.RowKit
open Go.ChangeMaps (open_string shut_string)
set_option linter.unusedVariables false



/-! ### Two calls of the tail's -/
theorem tail_params {W : World} (b off n c : Nat) (tl : List ByteArray) (hn : Hid (tl.length = n)) (hb : b < W.heap.size) (hc : Hid (∀ i, i < tl.length → W.cell? ⟨b, off + i, none⟩ = some (.string (tl.getD i ByteArray.empty)))) (hl : Hid (tl.length ≤ 65536)) (w : World) (hw : Below W.heap.size W w) :
    Calls Try.prog 16 #[.slice (some ⟨b, off, none⟩) n c] w fun e w' => ∃ g cap, e = .returned (.slice (some ⟨g, 0, none⟩) tl.length cap) ∧ V.Prms w' g tl ∧ Below W.heap.size W w' := by
  have h := V.paramsOf_any (some ⟨b, off, none⟩) c tl w (.inr ⟨b, off, rfl, Nat.lt_of_lt_of_le hb hw.size, fun i hi => (hw.cell (p := ⟨b, off + i, none⟩) hb).trans (hc.out i hi)⟩) hl.out
  rw [hn.out] at h
  refine h.mono ?_
  rintro e w' ⟨⟨g, cap, rfl, hP⟩, hb'⟩
  exact ⟨g, cap, rfl, hP, hw.trans (hb'.mono hw.size)⟩

theorem tail_keys {W : World} (g cap : Nat) (tl : List ByteArray) (w : World) (hP : V.Prms w g tl) (hl : Hid (tl.length ≤ 65536)) (hz : Hid (V.sz tl ≤ 1048576)) (hw : Below W.heap.size W w) :
    Calls Try.prog 15 #[.slice (some ⟨g, 0, none⟩) tl.length cap] w fun e w' => ∃ K : ByteArray, e = .returned (.string K) ∧ Hid (K.data.toList = V.say tl) ∧ K.size ≤ 2000000 ∧ Below W.heap.size W w' := by
  refine (V.ZZparamKeys_any g cap tl w hP hl.out hz.out).mono ?_
  rintro e w' ⟨rfl, hb'⟩
  exact ⟨_, rfl, rfl, by rw [V.size_list]; exact V.say_len_le hl.out hz.out, hw.trans (hb'.mono hw.size)⟩

theorem eqL {a b : ByteArray} (h : a.data.toList = b.data.toList) : (a.toList == b.toList) = true := by
  rw [ByteArray.toList_eq, ByteArray.toList_eq, h]; simp

/-! ### The walk -/
set_option maxHeartbeats 2000000 in
theorem walk (a0 : Option Addr) (cap0 : Nat) (ss : List ByteArray) (w : World) (A : V.Arg w a0 ss.length ss) :
    Calls Try.prog 5 #[.slice a0 ss.length cap0] w fun e w' => e = .returned (.bool true) ∧ Below w.heap.size w w' := by
  go_enter Try.func5, Try.ntmps5
  go_wp2_with fail
  refine (V.zz14 _ _ _ _ A.strs A.max A.each).mono ?_
  rintro e w' ⟨⟨r, rfl⟩, rfl⟩
  cases r
  · go_wp2_with fail
    go_ret
    exact ⟨rfl, Below.refl _ _⟩
  go_wp2_with fail
  refine (V.stringsBytes_any _ _ _ _ A.strs A.max A.each).mono ?_
  rintro e w' ⟨⟨t, rfl, ht⟩, rfl⟩
  by_cases hbig : 1048576 < t
  · go_wp2_with fail
    go_ret
    exact ⟨rfl, Below.refl _ _⟩
  have hsm := (ht.small (by omega)).2
  have hn : ss.length ≤ 65536 := by omega
  have hz : V.sz ss ≤ 1048576 := by omega
  clear hsm
  go_wp2_with fail
  refine (V.clone_any _ _ _ _ A.strs hn A.nil).mono ?_
  rintro e w1 ⟨⟨ao, rfl, hS⟩, hb1⟩
  go_wp2_with fail
  refine (V.paramsOf_any _ _ _ _ hS hn).mono ?_
  rintro e w2 ⟨⟨g, cap, rfl, hP⟩, hb2⟩
  go_wp2_with fail
  refine (V.ZZparamKeys_any _ _ _ _ hP hn hz).mono ?_
  rintro e w3 ⟨rfl, hb3⟩
  have hS := (hS.below hb2).below hb3
  have hB := (hb1.trans (hb2.mono hb1.size)).trans (hb3.mono (Nat.le_trans hb1.size hb2.size))
  have HB := V.hid hB
  have hsz := hB.size
  clear hb1 hb2 hb3 hP hB ht hbig
  have hG : Hid ((⟨(V.say ss).toArray⟩ : ByteArray).data.toList = V.say ss) := rfl
  generalize (⟨(V.say ss).toArray⟩ : ByteArray) = G at hG ⊢
  rcases (show ss.length = 0 ∨ ss.length = 1 ∨ ss.length = 2 ∨ 3 ≤ ss.length by omega) with hL | hL | hL | hL
  · have q : (G.toList == [110, 111, 110, 101]) = true := by rw [ByteArray.toList_eq, hG.out, V.say_zero hL]; rfl
    clear hG hS
    go_wp2_with fail
    go_ret
    exact ⟨rfl, HB.out⟩
  · obtain ⟨b, off, hao, hbk, hc0⟩ := hS.at 0 (by omega)
    have q : (G.toList == (ss.getD 0 ByteArray.empty).toList) = true := eqL (by rw [hG.out, V.say_one hL])
    generalize ss.getD 0 ByteArray.empty = s at hc0 q
    subst hao
    rw [Nat.add_zero] at hc0
    clear hG hS
    go_wp2_with fail
    go_ret
    exact ⟨rfl, HB.out⟩
  · obtain ⟨b, off, hao, hbk, hc0⟩ := hS.at 0 (by omega)
    obtain ⟨b', off', hao', _, hc1⟩ := hS.at 1 (by omega)
    subst hao
    simp only [Option.some.injEq, Addr.mk.injEq, and_true] at hao'
    obtain ⟨rfl, rfl⟩ := hao'
    have hp := V.say_pair hL
    have m0 := V.sz_mem ss 0 (by omega)
    have m1 := V.sz_mem ss 1 (by omega)
    generalize ss.getD 0 ByteArray.empty = s at hc0 hp m0
    generalize ss.getD 1 ByteArray.empty = u at hc1 hp m1
    rw [Nat.add_zero] at hc0
    have hs1 : s.size ≤ 1048576 := by omega
    have hu1 : u.size ≤ 1048576 := by omega
    have q : (G.toList == (s ++ ⟨#[32, 97, 110, 100, 32]⟩ ++ u).toList) = true := eqL (by rw [hG.out, hp, V.data_add, V.data_add])
    have a1 := V.add_run Try.prog s ⟨#[32, 97, 110, 100, 32]⟩ (by omega) (by decide)
    have a2 := V.add_run Try.prog (s ++ ⟨#[32, 97, 110, 100, 32]⟩) u (by rw [V.size_add]; show s.size + 5 ≤ _; omega) (by omega)
    clear hG hS hp m0 m1 hz
    go_wp2_with fail
    go_region_held3 (fun w' => w'.cell? ⟨b, off, none⟩ = some (.string s) ∧ w'.cell? ⟨b, off + 1, none⟩ = some (.string u)) ((exact ⟨hc0, hc1⟩)) (fail)
    go_wp2
    go_ret
    exact ⟨rfl, HB.out.drew⟩
  · obtain ⟨m, hm⟩ : ∃ m, ss.length = m + 3 := ⟨ss.length - 3, by omega⟩
    rcases hS with rfl | ⟨b, off, hao, hbk, hc⟩
    · simp at hm
    subst hao
    obtain ⟨tl, htl⟩ : ∃ tl : List ByteArray, tl = ss.drop 1 := ⟨_, rfl⟩
    have hp := V.say_more hL
    rw [← htl] at hp
    have hc0 := hc 0 (by omega)
    rw [Nat.add_zero] at hc0
    have m0 := V.sz_mem ss 0 (by omega)
    have hln : tl.length = m + 2 := by rw [htl, List.length_drop]; omega
    have Hln := V.hid hln
    have Hl : Hid (tl.length ≤ 65536) := by show tl.length ≤ 65536; omega
    have Hz : Hid (V.sz tl ≤ 1048576) := by have := V.sz_drop_le ss 1; rw [← htl] at this; show V.sz tl ≤ 1048576; omega
    have Hc : Hid (∀ i, i < tl.length → w3.cell? ⟨b, off + 1 + i, none⟩ = some (.string (tl.getD i ByteArray.empty))) := fun i hi => by
      have := hc (1 + i) (by omega)
      rw [← Nat.add_assoc] at this
      rw [this, htl, List.getD_eq_getElem?_getD, List.getD_eq_getElem?_getD, List.getElem?_drop]
    generalize ss.getD 0 ByteArray.empty = s at hc0 hp m0
    have hs1 : s.size ≤ 1048576 := by omega
    have a1 := V.add_run Try.prog s ⟨#[44, 32]⟩ (by omega) (by decide)
    have hsA : (s ++ ⟨#[44, 32]⟩ : ByteArray).size = s.size + 2 := V.size_add _ _
    have hA : (s ++ ⟨#[44, 32]⟩ : ByteArray).size ≤ 2000000 := by omega
    have Hp : Hid (∀ K : ByteArray, K.data.toList = V.say tl → (G.toList == (s ++ ⟨#[44, 32]⟩ ++ K).toList) = true) := fun K hK => eqL (by rw [hG.out, hp, V.data_add, V.data_add, hK])
    clear hc hp m0 hln hL hG htl hsA hz
    have f1 : ((m : Int) + 3 == 0) = false := beq_eq_false_iff_ne.2 (by omega)
    have f2 : ((m : Int) + 3 == 1) = false := beq_eq_false_iff_ne.2 (by omega)
    have f3 : ((m : Int) + 3 == 2) = false := beq_eq_false_iff_ne.2 (by omega)
    have f4 : (0 : Int) < (m : Int) + 3 := by omega
    have f5 : (1 : Int) ≤ (m : Int) + 3 := by omega
    go_wp2_with fail
    go_region_held3 (fun w' => Below w3.heap.size w3 w' ∧ w'.cell? ⟨b, off, none⟩ = some (.string s)) ((exact V.mkS hc0 hbk (by first | assumption | exact (Below.refl _ _).drew))) (first | (go_at_call 16; refine (tail_params b (off + 1) _ _ tl Hln hbk Hc Hl _ (Below.refl _ _).drew).mono ?_; rintro e w4 ⟨g', cap', rfl, hP', hb4⟩) | (go_at_call 15; refine (tail_keys _ _ tl _ (by assumption) Hl Hz (by assumption)).mono ?_; rintro e w5 ⟨K, rfl, hK, hKs, hb5⟩; have a2 := V.add_run Try.prog (s ++ ⟨#[44, 32]⟩) K (by omega) (by omega); have q := Hp.out K hK.out))
    go_wp2
    go_ret
    exact ⟨rfl, HB.out.trans (Below.mono ‹_› hsz)⟩

/-! ### THE ROW's STEP: WRITTEN OUT -/
set_option maxRecDepth 100000 in
theorem lifted (os : Os) (started : os.Started) (H : Type) (enc : TypeId × Value → H) :
    ReturnsInHanded {} Try.checked os 5 .any (Rows.fnParamKeysSaysTheListSpec.pre6 enc Try.prog Try.f5 Rows.fnParamKeysSaysTheListRow.domain false) (Rows.fnParamKeysSaysTheListSpec.post enc Try.prog Try.f5 false true false false) := by
  refine returnsInHanded_of_change (C := Try.checked) V.own started (by kernel_rfl) Try.func5
    (ChangeSpec.witness6 (enc := enc) (C := Try.checked) false ⟨#[], #[.slice none 0 0], []⟩ 8 (by kernel_rfl) (by kernel_rfl) (by kernel_rfl) (by kernel_rfl)) ?_
  intro W base args ds gs before hval0 hW hcnd _
  have hval : ∀ (j : Nat) t v, Try.f5.params[j]? = some t → args[j]? = some v → Value.okWide Try.prog W .any base t v := hval0
  have hW' := hW
  obtain ⟨p, q, hA0, hV, rfl, hfz, hnd⟩ := hW
  have hA : DataW.TrodAll enc Try.prog W 0 (fun _ => true) true Try.f5.params.toList args.toList ds p := hA0
  rw [Try.params5] at hA hval
  obtain ⟨v0, vs0, d0, ds0, p0, q0, hargs, rfl, rfl, h0, r0⟩ := trodAll_cons hA
  obtain ⟨rfl, rfl, rfl⟩ := trodAll_nil r0
  obtain rfl : args = #[v0] := by cases args; simp_all
  obtain ⟨rfl, rfl⟩ := trodVars_none hV
  obtain ⟨a0, len0, cap0, rfl⟩ := okWide_slice Try.underlying22 (hval 0 22 v0 rfl rfl)
  have k0 := h0
  have lt0 : ∀ x ∈ p0, x.block < W.heap.size := by obtain ⟨m, hm⟩ := k0; exact DataW.trod_lt m _ _ _ hm
  obtain ⟨ss, A⟩ := V.arg_open h0
  obtain rfl := A.len
  clear hA0 hval0
  refine (walk a0 cap0 ss W A).mono fun e W' ⟨he, bel⟩ => ?_
  subst he
  exact ⟨_, rfl, _, _, _, [], _, [], hW', trodAll_mk1 (shut_bool Try.underlying4 _), (trodAll_cons_mk (Below.trod V.laidOut (by kernel_rfl) (of_decide_eq_true (by kernel_rfl)) k0 bel lt0) trodAll_mk0), rfl, bel.frame _, fun h => by cases h⟩

theorem over : Rows.fnParamKeysSaysTheListRow.holds Try.pinned (OpenSpec.ofChange Rows.fnParamKeysSaysTheListSpec) :=
  OpenClaim.holds_of_wide 5 Try.f5 rfl rfl rfl rfl rfl rfl rfl ⟨rfl, rfl, rfl, rfl, rfl⟩ rfl rfl rfl rfl rfl (by kernel_rfl) Try.func5 (by kernel_rfl)
    (of_decide_eq_true (by kernel_rfl)) (by unfold Func.isWrapper; first | (rw [if_pos (by decide +kernel)]; kernel_rfl) | (rw [if_neg (by decide +kernel)]; exact ⟨rfl, rfl⟩))
    (fun os started H enc _ => lifted os started H enc)

/-- ████ THE STATEMENT ████ -/
theorem proved : Rows.FnParamKeysSaysTheListSaid := over
#print axioms proved
end Go.Proofs.Qxb6605890a.fnParamKeysSaysTheList
