/-
  The contract of 'cloneStrings': a slice over new memory that leads to the same strings; nothing old has turned.
-/
import Derived.Test.Qxb6605890aView
import Derived.Lib.SliceRun
namespace Go.Proofs.Qxb6605890a.V
open Go.ChangeShapes Go.WideShapes Go.ChangeAt Go.RowKit

theorem Try.info9 : (Try.prog.info? 9).map (fun i => (i.zero, i.size, i.bytes)) = some (some (.string ByteArray.empty), 1, 16) := by kernel_rfl

/-- The row when k strings have been copied. -/
def rowOf (ss : List ByteArray) (k : Nat) : List Value := (ss.take k).map Value.string ++ List.replicate (ss.length - k) (.string ByteArray.empty)
theorem rowOf_zero (ss : List ByteArray) : rowOf ss 0 = List.replicate ss.length (.string ByteArray.empty) := by simp [rowOf]
theorem rowOf_at (ss : List ByteArray) (k : Nat) (h : k < ss.length) : (rowOf ss k)[k]? = some (.string ByteArray.empty) := by
  unfold rowOf
  rw [List.getElem?_append_right (by simp; omega), List.getElem?_replicate, if_pos (by simp; omega)]
theorem rowOf_set (ss : List ByteArray) (k : Nat) (h : k < ss.length) : (rowOf ss k).set k (.string (ss.getD k ByteArray.empty)) = rowOf ss (k + 1) := by
  unfold rowOf
  have hl : ((ss.take k).map Value.string).length = k := by simp; omega
  rw [List.set_append_right _ _ (by omega), hl, Nat.sub_self, take_snoc ss k h]
  obtain ⟨m, hm⟩ : ∃ m, ss.length - k = m + 1 := ⟨ss.length - k - 1, by omega⟩
  rw [hm, show ss.length - (k + 1) = m by omega, List.replicate_succ]
  simp
theorem rowOf_full (ss : List ByteArray) : rowOf ss ss.length = ss.map Value.string := by simp [rowOf]

/-- A row that the call itself owns and that holds the strings ss leads to them. -/
theorem Strs.of_owns {w : World} {base g cap : Nat} {ss : List ByteArray} (h : w.ownsRow base 9 1 (.slice (some ⟨g, 0, none⟩) ss.length cap) ss.length (ss.map Value.string)) : Strs w (some ⟨g, 0, none⟩) ss := by
  refine .inr ⟨g, 0, rfl, (h.lt g rfl).2, fun i hi => ?_⟩
  rw [Nat.zero_add, h.cellAt i (by omega), List.getElem?_map, List.getElem?_eq_getElem hi, getD_lt ss i hi]
  rfl

/-- The call answered a slice that leads to ss. -/
def IsSl (ss : List ByteArray) (e : Ending) (w : World) : Prop := ∃ ao, e = .returned (.slice ao ss.length ss.length) ∧ Strs w ao ss

set_option maxHeartbeats 1000000 in
theorem clone_any (ao : Option Addr) (cap : Nat) (ss : List ByteArray) (w : World) (hS : Strs w ao ss) (hn : ss.length ≤ 65536) (hnil : ao = none → ss = []) :
    Calls Try.prog 9 #[.slice ao ss.length cap] w fun e w' => IsSl ss e w' ∧ Below w.heap.size w w' := by
  have q22 : ∀ (w : World) (a : Option Addr) (n c n' c' : Nat), (binOp .eql 22 (.slice a n c) (.slice none n' c')).run Try.prog w = .ok (.bool a.isNone) w := fun w a n c n' c' => Lib.run_eql_slice_nil w _ _ a n c n' c' Try.underlying22
  obtain ⟨i0, hi, hz0, hz1, hz2⟩ := info_parts Try.info9
  cases ao with
  | none =>
    obtain rfl := hnil rfl
    clear hS
    go_enter Try.func9, Try.ntmps9
    go_wp2
    go_ret
    exact ⟨⟨none, rfl, .inl rfl⟩, Below.refl _ _⟩
  | some a =>
    clear hnil
    rcases hS with rfl | ⟨b, off, ha, hb, hc⟩
    · go_enter Try.func9, Try.ntmps9
      go_wp2_with (at_make; refine wpList_make_full _ rfl _ _ 22 rfl w.heap.size 9 i0 (.string ByteArray.empty) 1 Try.underlying22 hi hz0 hz1 _ _ _ _ 0 rfl rfl rfl rfl (by omega) (by unfold maxLen; omega) (Nat.le_refl _) ?_; intro w1 hown hgrow)
      refine wp_loop_rounds 1 ?_
      rw [rounds_succ]
      go_wp2
      go_ret
      exact ⟨⟨_, rfl, .inl rfl⟩, (Below.refl _ _).grown hgrow (Nat.le_refl _) (fun k hk => by cases hk)⟩
    · obtain rfl := Option.some.inj ha
      have Hc : Hid (_) := hc
      clear hc ha
      go_enter Try.func9, Try.ntmps9
      go_wp2_with (at_make; refine wpList_make_full _ rfl _ _ 22 rfl w.heap.size 9 i0 (.string ByteArray.empty) 1 Try.underlying22 hi hz0 hz1 _ _ _ _ ss.length rfl rfl rfl rfl (by rw [hz2]; omega) (by unfold maxLen; omega) (Nat.le_refl _) ?_; intro w1 hown hgrow)
      have hown' : w1.ownsRow w.heap.size 9 1 (.slice (some ⟨w.heap.size, 0, none⟩) ss.length ss.length) ss.length (rowOf ss 0) := by
        rw [Nat.mul_one] at hown
        rw [rowOf_zero, ← toList_madeCells_one]
        exact hown
      have hbel : Below w.heap.size w w1 := (Below.refl _ _).grown hgrow (Nat.le_refl _) (fun k hk => by cases hk)
      clear hown hgrow
      go_loopw [4] (fun i wr => ∃ k : Nat, k ≤ ss.length ∧ i = .int .i64 k ∧ wr.ownsRow w.heap.size 9 1 (.slice (some ⟨w.heap.size, 0, none⟩) ss.length ss.length) ss.length (rowOf ss k) ∧ Below w.heap.size w wr) (fun i _ => ss.length - (intOf i).toNat)
      case atStart => exact ⟨0, Nat.zero_le _, rfl, hown', hbel⟩
      case round =>
        obtain ⟨k, hk, rfl, hw, hbr⟩ := hrel
        clear hown' hbel
        by_cases hlt : k < ss.length
        · have hck : wr.cell? ⟨b, off + k, none⟩ = some (.string (ss.getD k ByteArray.empty)) := (hbr.cell (p := ⟨b, off + k, none⟩) hb).trans (Hc.out k hlt)
          have hst : Hid (_) := rowOf_set ss k hlt
          have hco : wr.cell? ⟨w.heap.size, k, none⟩ = some (.string ByteArray.empty) := by rw [hw.cellAt k (by omega), rowOf_at ss k hlt]
          have hfo : wr.frozen? ⟨w.heap.size, k, none⟩ = false := hw.frozenAt k
          generalize ss.getD k ByteArray.empty = s at hck hst
          have hs1 := (hw.stored k (.string s)).1
          rw [hst.out] at hs1
          have Hs : Hid (_) := hs1
          have Hb : Hid (_) := hbr.setCell (p := ⟨w.heap.size, k, none⟩) (Nat.le_refl _) (.string s)
          clear hs1 hw hbr hst
          go_wp2
          go_roundw
          case rel => exact ⟨k + 1, by omega, by go_num, Hs.out, Hb.out⟩
          case measure => simp [intOf]; omega
        · have : k = ss.length := by omega
          subst this
          rw [rowOf_full] at hw
          have Hw : Hid (_) := hw
          have Hb : Hid (_) := hbr
          clear hw hbr
          go_wp2
          go_ret
          exact ⟨⟨_, rfl, Strs.of_owns Hw.out⟩, Hb.out⟩
end Go.Proofs.Qxb6605890a.V
