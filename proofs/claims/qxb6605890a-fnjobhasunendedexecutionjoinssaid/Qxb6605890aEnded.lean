/-
  The contracts of 'Terminal' and 'countEnded', and the plain law: some execution is not ended exactly when fewer are ended than there are.
-/
import Derived.Test.Qxb6605890aView
namespace Go.Proofs.Qxb6605890a.V
open Go.ChangeShapes Go.WideShapes Go.ChangeAt Go.RowKit

/-- 'Completed', 'Failed' or 'Stopped'. -/
def ended (s : ByteArray) : Bool := (s.toList == [67, 111, 109, 112, 108, 101, 116, 101, 100]) || (s.toList == [70, 97, 105, 108, 101, 100]) || (s.toList == [83, 116, 111, 112, 112, 101, 100])
theorem ended_mk {s : ByteArray} {a b c : Bool} (h1 : (s.toList == [67, 111, 109, 112, 108, 101, 116, 101, 100]) = a) (h2 : (s.toList == [70, 97, 105, 108, 101, 100]) = b) (h3 : (s.toList == [83, 116, 111, 112, 112, 101, 100]) = c) : ended s = (a || b || c) := by
  unfold ended; rw [h1, h2, h3]

def ce (ss : List ByteArray) : Int := ((ss.filter ended).length : Int)
theorem ce_le (ss : List ByteArray) : 0 ≤ ce ss ∧ ce ss ≤ ss.length := by
  unfold ce; exact ⟨by omega, by have := List.length_filter_le ended ss; omega⟩
theorem ce_snoc (ss : List ByteArray) (k : Nat) (h : k < ss.length) : ce (ss.take (k + 1)) = ce (ss.take k) + (if ended (ss.getD k ByteArray.empty) = true then 1 else 0) := by
  unfold ce
  rw [take_snoc ss k h, List.filter_append, List.length_append]
  generalize ss.getD k ByteArray.empty = s
  cases he : ended s <;> simp [he]

/-- Is some one not ended? -/
def un (ss : List ByteArray) : Bool := ss.any fun s => !ended s
theorem un_ce (ss : List ByteArray) : un ss = decide (ce ss < (ss.length : Int)) := by
  unfold un ce
  induction ss with
  | nil => rfl
  | cons s r ih =>
    have hl := List.length_filter_le ended r
    rw [List.any_cons, ih]
    cases he : ended s
    · simp only [List.filter_cons, he, Bool.not_false, Bool.true_or, List.length_cons]
      simp
      omega
    · simp [he]
theorem un_add (a b : List ByteArray) : un (a ++ b) = (un a || un b) := by unfold un; rw [List.any_append]

set_option maxHeartbeats 1000000 in
theorem Terminal_any (s : ByteArray) (w : World) : Calls Try.prog 20 #[.string s] w fun e w' => e = .returned (.bool (ended s)) ∧ w' = w := by
  cases h1 : (s.toList == [67, 111, 109, 112, 108, 101, 116, 101, 100])
  all_goals cases h2 : (s.toList == [70, 97, 105, 108, 101, 100])
  all_goals cases h3 : (s.toList == [83, 116, 111, 112, 112, 101, 100])
  all_goals
    have he : Hid (_) := ended_mk h1 h2 h3
    go_enter Try.func20, Try.ntmps20
    go_wp2
    go_ret
    exact ⟨ret_bool he.out.symm, rfl⟩

set_option maxHeartbeats 2000000 in
theorem countEnded_any (ao : Option Addr) (cap : Nat) (ss : List ByteArray) (w : World) (hS : Strs w ao ss) (hn : ss.length ≤ 65536) :
    Calls Try.prog 12 #[.slice ao ss.length cap] w fun e w' => e = .returned (.int .i64 (ce ss)) ∧ w' = w := by
  rcases hS with rfl | ⟨b, off, rfl, _, hc⟩
  · go_enter Try.func12, Try.ntmps12
    go_wp2
    refine wp_loop_rounds 1 ?_
    rw [rounds_succ]
    go_wp2
    go_ret
    exact ⟨ret_int rfl, rfl⟩
  · have Hc : Hid (_) := hc
    clear hc
    go_enter Try.func12, Try.ntmps12
    go_wp2
    go_loop [3, 4] (fun z i => ∃ k : Nat, k ≤ ss.length ∧ i = .int .i64 k ∧ z = .int .i64 (ce (ss.take k))) (fun _ i => ss.length - (intOf i).toNat)
    case atStart => exact ⟨0, Nat.zero_le _, rfl, rfl⟩
    case round =>
      obtain ⟨k, hk, rfl, rfl⟩ := hrel
      have hb := ce_le (ss.take k)
      have hl : (ss.take k).length ≤ k := List.length_take_le _ _
      by_cases hlt : k < ss.length
      · have hck := Hc.out k hlt
        have hst : Hid (_) := ce_snoc ss k hlt
        generalize ss.getD k ByteArray.empty = s at hck hst
        cases h1 : (s.toList == [67, 111, 109, 112, 108, 101, 116, 101, 100])
        all_goals cases h2 : (s.toList == [70, 97, 105, 108, 101, 100])
        all_goals cases h3 : (s.toList == [83, 116, 111, 112, 112, 101, 100])
        all_goals
          have he : Hid (_) := ended_mk h1 h2 h3
          go_wp2
          go_round
          case rel => exact ⟨k + 1, by omega, by go_num, by simp [hst.out, he.out]⟩
          case measure => simp [intOf]; omega
      · go_wp2
        go_ret
        exact ⟨ret_int (by rw [List.take_of_length_le (by omega)]), rfl⟩
end Go.Proofs.Qxb6605890a.V
