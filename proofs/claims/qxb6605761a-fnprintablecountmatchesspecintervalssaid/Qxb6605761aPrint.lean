/-
  The contracts of 'printable' and 'ZZprintable': they answer 'prt', the eight intervals.
-/
import Derived.Test.Qxb6605761aRows
import Derived.WalkKit
import Derived.ProofKit
import Derived.OpenShut
import Derived.ShutString
namespace Go.Proofs.Qxb6605761a.Print
open Go.ChangeShapes Go.WideShapes Go.ChangeAt Go.RowKit

/-- What 'printable' answers: the eight intervals. -/
def prt (r : Int) : Bool := decide (r = 9 ∨ r = 10 ∨ r = 13 ∨ (32 ≤ r ∧ r ≤ 126) ∨ r = 133 ∨ (160 ≤ r ∧ r ≤ 55295) ∨ (57344 ≤ r ∧ r ≤ 65533) ∨ (65536 ≤ r ∧ r ≤ 1114111))

theorem prt_yes {r : Int} (h : r = 9 ∨ r = 10 ∨ r = 13 ∨ (32 ≤ r ∧ r ≤ 126) ∨ r = 133 ∨ (160 ≤ r ∧ r ≤ 55295) ∨ (57344 ≤ r ∧ r ≤ 65533) ∨ (65536 ≤ r ∧ r ≤ 1114111)) : prt r = true := by
  unfold prt; exact decide_eq_true h
theorem prt_no {r : Int} (h : ¬ (r = 9 ∨ r = 10 ∨ r = 13 ∨ (32 ≤ r ∧ r ≤ 126) ∨ r = 133 ∨ (160 ≤ r ∧ r ≤ 55295) ∨ (57344 ≤ r ∧ r ≤ 65533) ∨ (65536 ≤ r ∧ r ≤ 1114111))) : prt r = false := by
  unfold prt; exact decide_eq_false h

theorem ret_bool {a b : Bool} (h : a = b) : Ending.returned (.bool a) = .returned (.bool b) := by rw [h]

set_option maxHeartbeats 1000000 in
theorem printable_any (r : Int) (w : World) :
    Calls Try.prog 11 #[.int .i32 r] w fun e w' => e = .returned (.bool (prt r)) ∧ w' = w := by
  have cut : r < 9 ∨ r = 9 ∨ r = 10 ∨ (10 < r ∧ r < 13) ∨ r = 13 ∨ (13 < r ∧ r < 32) ∨ (32 ≤ r ∧ r ≤ 126) ∨ (126 < r ∧ r < 133) ∨ r = 133 ∨ (133 < r ∧ r < 160) ∨ (160 ≤ r ∧ r ≤ 55295) ∨ (55295 < r ∧ r < 57344) ∨ (57344 ≤ r ∧ r ≤ 65533) ∨ (65533 < r ∧ r < 65536) ∨ (65536 ≤ r ∧ r ≤ 1114111) ∨ 1114111 < r := by omega
  rcases cut with h | h | h | h | h | h | h | h | h | h | h | h | h | h | h | h
  all_goals
    first | have b1 : (r == 9) = true := beq_iff_eq.2 (by omega) | have b1 : (r == 9) = false := beq_eq_false_iff_ne.2 (by omega)
    first | have b2 : (r == 10) = true := beq_iff_eq.2 (by omega) | have b2 : (r == 10) = false := beq_eq_false_iff_ne.2 (by omega)
    first | have b3 : (r == 13) = true := beq_iff_eq.2 (by omega) | have b3 : (r == 13) = false := beq_eq_false_iff_ne.2 (by omega)
    first | have b4 : (r == 133) = true := beq_iff_eq.2 (by omega) | have b4 : (r == 133) = false := beq_eq_false_iff_ne.2 (by omega)
    first | have b5 : decide (32 ≤ r) = true := decide_eq_true (by omega) | have b5 : decide (32 ≤ r) = false := decide_eq_false (by omega)
    first | have b6 : decide (r ≤ 126) = true := decide_eq_true (by omega) | have b6 : decide (r ≤ 126) = false := decide_eq_false (by omega)
    first | have b7 : decide (160 ≤ r) = true := decide_eq_true (by omega) | have b7 : decide (160 ≤ r) = false := decide_eq_false (by omega)
    first | have b8 : decide (r ≤ 55295) = true := decide_eq_true (by omega) | have b8 : decide (r ≤ 55295) = false := decide_eq_false (by omega)
    first | have b9 : decide (57344 ≤ r) = true := decide_eq_true (by omega) | have b9 : decide (57344 ≤ r) = false := decide_eq_false (by omega)
    first | have b10 : decide (r ≤ 65533) = true := decide_eq_true (by omega) | have b10 : decide (r ≤ 65533) = false := decide_eq_false (by omega)
    first | have b11 : decide (65536 ≤ r) = true := decide_eq_true (by omega) | have b11 : decide (65536 ≤ r) = false := decide_eq_false (by omega)
    first | have b12 : decide (r ≤ 1114111) = true := decide_eq_true (by omega) | have b12 : decide (r ≤ 1114111) = false := decide_eq_false (by omega)
    first | (have hp := prt_yes (r := r) (by omega)) | (have hp := prt_no (r := r) (by omega))
    have H : Hid (_) := hp
    clear hp
    have HH : Hid (_) := h
    clear h
    go_enter Try.func11, Try.ntmps11
    go_wp2
    go_ret
    exact ⟨ret_bool H.out.symm, rfl⟩

theorem ZZprintable_any (r : Int) (w : World) :
    Calls Try.prog 6 #[.int .i32 r] w fun e w' => e = .returned (.bool (prt r)) ∧ w' = w := by
  go_enter Try.func6, Try.ntmps6
  go_wp2_with (go_at_call 11; refine (printable_any _ _).mono ?_; rintro e w' ⟨rfl, rfl⟩)
  go_ret
  exact ⟨rfl, rfl⟩
end Go.Proofs.Qxb6605761a.Print
