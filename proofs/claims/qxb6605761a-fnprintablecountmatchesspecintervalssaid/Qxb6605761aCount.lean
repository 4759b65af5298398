/-
  The plain law of the count: how many of the runes x, x+1, .. x+k-1 are printable, told by the overlaps with the seven intervals; and the contract of 'overlapTermsB1'.
-/
import Derived.Test.Qxb6605761aPrint
namespace Go.Proofs.Qxb6605761a.Count
open Go.ChangeShapes Go.WideShapes Go.ChangeAt Go.RowKit

/-- What 'overlapTermsB1' answers. -/
def ovl (a b x y : Int) : Int :=
  if (if y < b then y else b) < (if a < x then x else a) then 0 else (if y < b then y else b) - (if a < x then x else a) + 1

/-- How many of the k runes from x on are printable. -/
def cnt (x : Int) : Nat → Int
  | 0 => 0
  | k + 1 => cnt x k + (if Print.prt (x + k) = true then 1 else 0)

theorem cnt_bd (x : Int) (k : Nat) : 0 ≤ cnt x k ∧ cnt x k ≤ k := by
  induction k with
  | zero => simp [cnt]
  | succ k ih =>
    unfold cnt
    split <;> omega

theorem ovl_bd (a b x : Int) (k : Nat) : 0 ≤ ovl a b x (x + k - 1) ∧ ovl a b x (x + k - 1) ≤ k := by
  unfold ovl
  repeat' split
  all_goals omega

theorem ovl_zero (a b x : Int) : ovl a b x (x + (0 : Nat) - 1) = 0 := by
  unfold ovl
  repeat' split
  all_goals omega

theorem ovl_step (a b x : Int) (k : Nat) : ovl a b x (x + (k + 1 : Nat) - 1) = ovl a b x (x + k - 1) + (if a ≤ x + k ∧ x + k ≤ b then 1 else 0) := by
  unfold ovl
  repeat' split
  all_goals omega

theorem prt_sum (r : Int) : (if Print.prt r = true then (1 : Int) else 0) = (if 9 ≤ r ∧ r ≤ 10 then 1 else 0) + (if 13 ≤ r ∧ r ≤ 13 then 1 else 0) + (if 32 ≤ r ∧ r ≤ 126 then 1 else 0) + (if 133 ≤ r ∧ r ≤ 133 then 1 else 0)
    + (if 160 ≤ r ∧ r ≤ 55295 then 1 else 0) + (if 57344 ≤ r ∧ r ≤ 65533 then 1 else 0) + (if 65536 ≤ r ∧ r ≤ 1114111 then 1 else 0) := by
  by_cases h : r = 9 ∨ r = 10 ∨ r = 13 ∨ (32 ≤ r ∧ r ≤ 126) ∨ r = 133 ∨ (160 ≤ r ∧ r ≤ 55295) ∨ (57344 ≤ r ∧ r ≤ 65533) ∨ (65536 ≤ r ∧ r ≤ 1114111)
  · rw [if_pos (Print.prt_yes h)]
    rcases h with h | h | h | h | h | h | h | h
    all_goals
      repeat' split
      all_goals omega
  · rw [if_neg (by rw [Print.prt_no h]; decide)]
    repeat' split
    all_goals omega

theorem cnt_eq (x : Int) (k : Nat) : cnt x k = ovl 9 10 x (x + k - 1) + ovl 13 13 x (x + k - 1) + ovl 32 126 x (x + k - 1) + ovl 133 133 x (x + k - 1) + ovl 160 55295 x (x + k - 1) + ovl 57344 65533 x (x + k - 1) + ovl 65536 1114111 x (x + k - 1) := by
  induction k with
  | zero => simp only [ovl_zero]; rfl
  | succ k ih =>
    rw [cnt, prt_sum, ih]
    simp only [ovl_step]
    omega

theorem ret_int {k : IntKind} {a b : Int} (h : a = b) : Ending.returned (.int k a) = .returned (.int k b) := by rw [h]

set_option maxHeartbeats 1000000 in
theorem overlap_any (a b x y : Int) (w : World) (ha : -4294967296 ≤ a ∧ a ≤ 4294967296) (hb : -4294967296 ≤ b ∧ b ≤ 4294967296) (hx : -4294967296 ≤ x ∧ x ≤ 4294967296) (hy : -4294967296 ≤ y ∧ y ≤ 4294967296) :
    Calls Try.prog 7 #[.int .i64 a, .int .i64 b, .int .i64 x, .int .i64 y] w fun e w' => e = .returned (.int .i64 (ovl a b x y)) ∧ w' = w := by
  obtain ⟨ha1, ha2⟩ := ha
  obtain ⟨hb1, hb2⟩ := hb
  obtain ⟨hx1, hx2⟩ := hx
  obtain ⟨hy1, hy2⟩ := hy
  by_cases h1 : a < x
  all_goals by_cases h2 : y < b
  · by_cases h3 : y < x
    all_goals
      go_enter Try.func7, Try.ntmps7
      go_wp2
      go_ret
      exact ⟨ret_int (by unfold ovl; (repeat' split) <;> omega), rfl⟩
  · by_cases h3 : b < x
    all_goals
      go_enter Try.func7, Try.ntmps7
      go_wp2
      go_ret
      exact ⟨ret_int (by unfold ovl; (repeat' split) <;> omega), rfl⟩
  · by_cases h3 : y < a
    all_goals
      go_enter Try.func7, Try.ntmps7
      go_wp2
      go_ret
      exact ⟨ret_int (by unfold ovl; (repeat' split) <;> omega), rfl⟩
  · by_cases h3 : b < a
    all_goals
      go_enter Try.func7, Try.ntmps7
      go_wp2
      go_ret
      exact ⟨ret_int (by unfold ovl; (repeat' split) <;> omega), rfl⟩
end Go.Proofs.Qxb6605761a.Count
