/-
  Plain laws of 'say': no Go in sight.
-/
import Derived.Test.Qxb6605890aSay
namespace Go.Proofs.Qxb6605890a.V
open Go.ChangeShapes Go.WideShapes Go.ChangeAt Go.RowKit

theorem join_cons2 (x y : List UInt8) (r : List (List UInt8)) (sep : List UInt8) : Lib.join (x :: y :: r) sep = x ++ sep ++ Lib.join (y :: r) sep := by
  rw [Lib.join_cons, Lib.join_cons]
  simp [Lib.joinTail, List.append_assoc]

theorem say_zero {ss : List ByteArray} (h : ss.length = 0) : say ss = [110, 111, 110, 101] := by unfold say; rw [if_pos h]
theorem say_one {ss : List ByteArray} (h : ss.length = 1) : say ss = (ss.getD 0 ByteArray.empty).data.toList := by unfold say; rw [if_neg (by omega), if_pos h]
theorem say_pair {ss : List ByteArray} (h : ss.length = 2) : say ss = (ss.getD 0 ByteArray.empty).data.toList ++ [32, 97, 110, 100, 32] ++ (ss.getD 1 ByteArray.empty).data.toList := by
  unfold say
  rw [if_neg (by omega), if_neg (by omega), h]
  match ss, h with
  | [x, y], _ => simp [Lib.join_one]
theorem say_more {ss : List ByteArray} (h : 3 ≤ ss.length) : say ss = (ss.getD 0 ByteArray.empty).data.toList ++ [44, 32] ++ say (ss.drop 1) := by
  match ss, h with
  | x :: y :: z :: r, _ =>
    have e1 : say (x :: y :: z :: r) = Lib.join (((x :: y :: z :: r).take (r.length + 2)).map (·.data.toList)) [44, 32] ++ [32, 97, 110, 100, 32] ++ ((x :: y :: z :: r).getD (r.length + 2) ByteArray.empty).data.toList := by
      unfold say
      rw [if_neg (by simp), if_neg (by simp)]
      rfl
    have e2 : say (y :: z :: r) = Lib.join (((y :: z :: r).take (r.length + 1)).map (·.data.toList)) [44, 32] ++ [32, 97, 110, 100, 32] ++ ((y :: z :: r).getD (r.length + 1) ByteArray.empty).data.toList := by
      unfold say
      rw [if_neg (by simp), if_neg (by simp)]
      rfl
    have e3 : (x :: y :: z :: r).drop 1 = y :: z :: r := rfl
    rw [e3, e2, e1, List.take_succ_cons, List.take_succ_cons, List.map_cons, List.map_cons, join_cons2]
    simp only [List.append_assoc]
    rfl

theorem say_ends {ss : List ByteArray} (h : 2 ≤ ss.length) : ∃ l, say ss = l ++ ([32, 97, 110, 100, 32] ++ (ss.getD (ss.length - 1) ByteArray.empty).data.toList) := by
  unfold say
  rw [if_neg (by omega), if_neg (by omega)]
  exact ⟨_, List.append_assoc _ _ _⟩
theorem say_begins {ss : List ByteArray} (h : 2 ≤ ss.length) : ∃ l, say ss = (ss.getD 0 ByteArray.empty).data.toList ++ l := by
  match ss, h with
  | x :: y :: r, _ =>
    unfold say
    rw [if_neg (by simp), if_neg (by simp)]
    have e : (x :: y :: r).take ((x :: y :: r).length - 1) = x :: (y :: r).take r.length := rfl
    rw [e, List.map_cons, Lib.join_cons]
    exact ⟨_, by rw [List.append_assoc, List.append_assoc]; rfl⟩
theorem say_length {ss : List ByteArray} (h : 2 ≤ ss.length) : (say ss).length = sz ss + 2 * (ss.length - 2) + 5 := by
  have hs := sz_snoc ss (ss.length - 1) (by omega)
  have ht : ss.take (ss.length - 1 + 1) = ss := by rw [show ss.length - 1 + 1 = ss.length by omega]; exact List.take_length
  rw [ht] at hs
  unfold say
  rw [if_neg (by omega), if_neg (by omega), List.length_append, List.length_append]
  have hl : (ss.take (ss.length - 1)).length = ss.length - 1 := by rw [List.length_take]; omega
  have hz := lens_sz (ss.take (ss.length - 1))
  generalize hq : ss.take (ss.length - 1) = q at hl hz hs
  match q, hl with
  | [], hl => simp at hl; omega
  | x :: r, hl =>
    rw [List.map_cons, Lib.join_length, ← List.map_cons (f := fun y : ByteArray => y.data.toList), hz]
    have e : ((ss.getD (ss.length - 1) ByteArray.empty).data.toList).length = (ss.getD (ss.length - 1) ByteArray.empty).size := Array.length_toList
    rw [e]
    simp only [List.length_map, List.length_cons, List.length_nil] at hl ⊢
    omega
theorem say_len_le {ss : List ByteArray} (hl : ss.length ≤ 65536) (hz : sz ss ≤ 1048576) : (say ss).length ≤ 2000000 := by
  by_cases h2 : 2 ≤ ss.length
  · rw [say_length h2]; omega
  · by_cases h0 : ss.length = 0
    · rw [say_zero h0]; simp
    · rw [say_one (by omega)]
      have := sz_mem ss 0 (by omega)
      have e : ((ss.getD 0 ByteArray.empty).data.toList).length = (ss.getD 0 ByteArray.empty).size := Array.length_toList
      rw [e]; omega
theorem sz_drop_le (ss : List ByteArray) (k : Nat) : sz (ss.drop k) ≤ sz ss := by
  have e := sz_add (ss.take k) (ss.drop k)
  rw [List.take_append_drop] at e
  omega
end Go.Proofs.Qxb6605890a.V
