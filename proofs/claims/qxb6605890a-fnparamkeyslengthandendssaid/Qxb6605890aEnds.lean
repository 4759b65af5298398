/-
  The contracts of 'startsWith' and 'endsWith', where they answer yes.
-/
import Derived.Test.Qxb6605890aView
import Derived.Deep.RegionHeld3
namespace Go.Proofs.Qxb6605890a.V
open Go.ChangeShapes Go.WideShapes Go.ChangeAt Go.RowKit

theorem at_list (s : ByteArray) (i : Nat) (h : i < s.size) : s[i] = s.data.toList[i]'(by rw [Array.length_toList]; exact h) := rfl
theorem at_get (s : ByteArray) (i : Nat) (h : i < s.size) : s.data.toList[i]? = some s[i] := by
  rw [at_list s i h]
  exact List.getElem?_eq_getElem _

set_option maxHeartbeats 1000000 in
theorem startsWith_yes (s p : ByteArray) (w : World) (hs : s.size ≤ 4000000) (hl : p.size ≤ s.size) (he : ∀ i (h : i < p.size), s[i]'(Nat.lt_of_lt_of_le h hl) = p[i]) :
    Calls Try.prog 18 #[.string s, .string p] w fun e w' => e = .returned (.bool true) ∧ Below w.heap.size w w' := by
  have He : Hid (_) := he
  clear he
  have t0 : decide (s.size < p.size) = false := decide_eq_false (by omega)
  go_enter Try.func18, Try.ntmps18
  go_wp2
  go_loopw [5] (fun i wr => ∃ k : Nat, k ≤ p.size ∧ i = .int .i64 k ∧ Below w.heap.size w wr) (fun i _ => p.size - (intOf i).toNat)
  case atStart => exact ⟨0, Nat.zero_le _, rfl, Below.refl _ _⟩
  case round =>
    obtain ⟨k, hk, rfl, hbr⟩ := hrel
    have HB : Hid (_) := hbr
    clear hbr
    by_cases hlt : k < p.size
    · have h2 : k < s.size := by omega
      have h3 : (k : Int) < (p.size : Int) := by omega
      have h4 : (k : Int) < (s.size : Int) := by omega
      have h5 : (0 : Int) ≤ (k : Int) := by omega
      have hq : ((s[k].toNat : Int) != (p[k].toNat : Int)) = false := by rw [bne_eq_false_iff_eq, He.out k hlt]
      go_wp2
      go_region_held3 (fun w' => True) (trivial) (fail)
      all_goals
        go_wp2
        go_roundw
        case rel => exact ⟨k + 1, by omega, by go_num, HB.out.drew⟩
        case measure => simp [intOf]; omega
    · go_wp2
      go_ret
      exact ⟨rfl, HB.out⟩

set_option maxHeartbeats 1000000 in
theorem endsWith_yes (s p : ByteArray) (d : Nat) (w : World) (hs : s.size ≤ 4000000) (hl3 : s.size ≤ d + p.size) (hl1 : d + p.size ≤ s.size) (he : ∀ i (h : i < p.size), s[d + i]'(by omega) = p[i]) :
    Calls Try.prog 19 #[.string s, .string p] w fun e w' => e = .returned (.bool true) ∧ Below w.heap.size w w' := by
  have He : Hid (_) := he
  clear he
  have t0 : decide (s.size < p.size) = false := decide_eq_false (by omega)
  have t1 : (s.size : Int) - (p.size : Int) = (d : Int) := by omega
  have hl2 : p.size ≤ s.size := by omega
  have hd : d ≤ 4000000 := by omega
  go_enter Try.func19, Try.ntmps19
  go_wp2
  go_loopw [6] (fun i wr => ∃ k : Nat, k ≤ p.size ∧ i = .int .i64 k ∧ Below w.heap.size w wr) (fun i _ => p.size - (intOf i).toNat)
  case atStart => exact ⟨0, Nat.zero_le _, rfl, Below.refl _ _⟩
  case round =>
    obtain ⟨k, hk, rfl, hbr⟩ := hrel
    have HB : Hid (_) := hbr
    clear hbr
    by_cases hlt : k < p.size
    · have h2 : d + k < s.size := by omega
      have h3 : (k : Int) < (p.size : Int) := by omega
      have h4 : (d : Int) + (k : Int) < (s.size : Int) := by omega
      have h5 : (0 : Int) ≤ (k : Int) := by omega
      have h6 : (0 : Int) ≤ (d : Int) + (k : Int) := by omega
      have h7 : ((d : Int) + (k : Int)).toNat = d + k := by omega
      have h8 : IntKind.i64.wrap ((d : Int) + (k : Int)) = (d : Int) + (k : Int) := by rw [IntKind.wrap_i64]; omega
      have hq : ((s[d + k].toNat : Int) != (p[k].toNat : Int)) = false := by rw [bne_eq_false_iff_eq, He.out k hlt]
      go_wp2
      go_region_held3 (fun w' => True) (trivial) (fail)
      all_goals
        go_wp2
        go_roundw
        case rel => exact ⟨k + 1, by omega, by go_num, HB.out.drew⟩
        case measure => simp [intOf]; omega
    · go_wp2
      go_ret
      exact ⟨rfl, HB.out⟩
end Go.Proofs.Qxb6605890a.V
