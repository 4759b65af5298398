/-
  The contracts of 'keyName', 'ZZkeyName', 'dotsTermsB1' and 'zzBytes_FnKeyNameNestsAssociatively', and the plain laws over them.
-/
import Derived.Test.Qxb6605761aRows
import Derived.WalkKit
import Derived.ProofKit
import Derived.OpenShut
import Derived.ShutString
namespace Go.Proofs.Qxb6605761a.Keys
open Go.ChangeShapes Go.WideShapes Go.ChangeAt Go.RowKit

/-! ### Plain -/
def dot : ByteArray := ⟨#[46]⟩
/-- What 'keyName' answers. -/
def kn (m k : ByteArray) : ByteArray := if m.toList.isEmpty = true then k else m ++ dot ++ k
theorem kn_nil {m : ByteArray} (k : ByteArray) (h : m.toList.isEmpty = true) : kn m k = k := by unfold kn; rw [if_pos h]
theorem kn_not {m : ByteArray} (k : ByteArray) (h : m.toList.isEmpty = false) : kn m k = m ++ dot ++ k := by unfold kn; rw [if_neg (by rw [h]; decide)]

theorem toList_data (s : ByteArray) : s.toList = s.data.toList := ByteArray.toList_eq s
theorem empty_size (s : ByteArray) : s.toList.isEmpty = true ↔ s.size = 0 := by
  rw [toList_data, List.isEmpty_iff]
  show s.data.toList = [] ↔ s.data.size = 0
  rw [← Array.length_toList]; exact List.length_eq_zero_iff.symm
theorem not_empty_size (s : ByteArray) : s.toList.isEmpty = false ↔ s.size ≠ 0 := by
  rw [← Bool.not_eq_true, empty_size]
theorem size_add (a b : ByteArray) : (a ++ b).size = a.size + b.size := ByteArray.size_append
theorem size_dot : dot.size = 1 := rfl
theorem data_add (a b : ByteArray) : (a ++ b).data.toList = a.data.toList ++ b.data.toList := by simp
theorem assoc (a b c : ByteArray) : a ++ b ++ c = a ++ (b ++ c) := ByteArray.append_assoc

def dots (l : List UInt8) : Int := (l.filter fun c => c == 46).length
theorem dots_le (l : List UInt8) : 0 ≤ dots l ∧ dots l ≤ l.length := by
  unfold dots; exact ⟨by omega, by have := List.length_filter_le (fun c : UInt8 => c == 46) l; omega⟩
theorem dots_add (a b : List UInt8) : dots (a ++ b) = dots a + dots b := by unfold dots; rw [List.filter_append, List.length_append]; omega
theorem dots_dot : dots dot.data.toList = 1 := rfl

theorem kn_assoc {a b c : ByteArray} (hb : b.toList.isEmpty = false) : kn (kn a b) c = kn a (kn b c) := by
  cases ha : a.toList.isEmpty with
  | true => rw [kn_nil _ ha, kn_nil _ ha]
  | false =>
    have h1 : (a ++ dot ++ b).toList.isEmpty = false := by rw [not_empty_size, size_add, size_add, size_dot]; omega
    rw [kn_not _ ha, kn_not _ h1, kn_not _ ha, kn_not _ hb]
    simp only [assoc]

theorem kn_size_le (m k : ByteArray) : (kn m k).size ≤ m.size + k.size + 1 := by
  unfold kn; split
  · omega
  · rw [size_add, size_add, size_dot]; omega

theorem kn_three_nil {a b c : ByteArray} (ha : a.toList.isEmpty = true) (hb : b.toList.isEmpty = false) : (kn (kn a b) c).size = a.size + b.size + c.size + 1 ∧ dots (kn (kn a b) c).data.toList = dots a.data.toList + dots b.data.toList + dots c.data.toList + 1 := by
  have h0 := (empty_size a).1 ha
  have hl : a.data.toList = [] := by rw [toList_data, List.isEmpty_iff] at ha; exact ha
  rw [kn_nil _ ha, kn_not _ hb]
  constructor
  · rw [size_add, size_add, size_dot]; omega
  · rw [hl, data_add, data_add, dots_add, dots_add, dots_dot]
    show _ = 0 + _ + _ + _
    omega

theorem kn_three_not {a b c : ByteArray} (ha : a.toList.isEmpty = false) : (kn (kn a b) c).size = a.size + b.size + c.size + 2 ∧ dots (kn (kn a b) c).data.toList = dots a.data.toList + dots b.data.toList + dots c.data.toList + 2 := by
  have h1 : (a ++ dot ++ b).toList.isEmpty = false := by rw [not_empty_size, size_add, size_add, size_dot]; omega
  rw [kn_not _ ha, kn_not _ h1]
  constructor
  · simp only [size_add, size_dot]; omega
  · simp only [data_add, dots_add, dots_dot]; omega

theorem ret_int {k : IntKind} {a b : Int} (h : a = b) : Ending.returned (.int k a) = .returned (.int k b) := by rw [h]
theorem ret_str {a b : ByteArray} (h : a = b) : Ending.returned (.string a) = .returned (.string b) := by rw [h]
theorem ret_bool {a b : Bool} (h : a = b) : Ending.returned (.bool a) = .returned (.bool b) := by rw [h]

/-! ### keyName -/
set_option maxHeartbeats 400000 in
theorem keyName_any (m k : ByteArray) (w : World) (hm : m.size ≤ 4194304) (hk : k.size ≤ 4194304) :
    Calls Try.prog 12 #[.string m, .string k] w fun e w' => e = .returned (.string (kn m k)) ∧ w' = w := by
  cases he : m.toList.isEmpty with
  | true =>
    have hkn : Hid (_) := kn_nil k he
    go_enter Try.func12, Try.ntmps12
    go_wp2
    go_ret
    exact ⟨ret_str hkn.out.symm, rfl⟩
  | false =>
    have hkn : Hid (_) := kn_not k he
    have a1 : ∀ w, (Op.stringOp .add m ⟨#[46]⟩).run Try.prog w = .ok (.string (m ++ ⟨#[46]⟩)) w := fun w => run_string_add_sum w _ _ (by show m.size + 1 ≤ _; omega)
    have a2 : ∀ w, (Op.stringOp .add (m ++ ⟨#[46]⟩) k).run Try.prog w = .ok (.string (m ++ ⟨#[46]⟩ ++ k)) w := fun w => run_string_add_sum w _ _ (by rw [size_add]; show m.size + 1 + k.size ≤ _; omega)
    go_enter Try.func12, Try.ntmps12
    go_wp2
    go_ret
    exact ⟨ret_str hkn.out.symm, rfl⟩

theorem ZZkeyName_any (m k : ByteArray) (w : World) (hm : m.size ≤ 4194304) (hk : k.size ≤ 4194304) :
    Calls Try.prog 9 #[.string m, .string k] w fun e w' => e = .returned (.string (kn m k)) ∧ w' = w := by
  go_enter Try.func9, Try.ntmps9
  go_wp2_with (go_at_call 12; refine (keyName_any _ _ _ hm hk).mono ?_; rintro e w' ⟨rfl, rfl⟩)
  go_ret
  exact ⟨rfl, rfl⟩

/-! ### dotsTermsB1 -/
theorem take_snoc (s : ByteArray) (k : Nat) (h : k < s.size) : s.data.toList.take (k + 1) = s.data.toList.take k ++ [s[k]] := by
  rw [List.take_succ_eq_append_getElem (by simpa using h)]; rfl
theorem dots_snoc (l : List UInt8) (c : UInt8) : dots (l ++ [c]) = dots l + if ((c.toNat : Int) == 46) = true then 1 else 0 := by
  rw [dots_add]
  congr 1
  unfold dots
  by_cases h : c = 46
  · subst h; rfl
  · have h' : ((c.toNat : Int) == 46) = false := by
      rw [beq_eq_false_iff_ne]
      intro hh
      exact h (UInt8.toNat_inj.1 (by show c.toNat = 46; omega))
    simp [h, h']

set_option maxHeartbeats 400000 in
theorem dots_any (s : ByteArray) (w : World) (hs : s.size ≤ 4194304) :
    Calls Try.prog 10 #[.string s] w fun e w' => e = .returned (.int .i64 (dots s.data.toList)) ∧ w' = w := by
  go_enter Try.func10, Try.ntmps10
  go_wp2
  go_loop [3, 4] (fun n i => ∃ k : Nat, k ≤ s.size ∧ i = .int .i64 k ∧ n = .int .i64 (dots (s.data.toList.take k))) (fun _ i => s.size - (intOf i).toNat)
  case atStart => exact ⟨0, Nat.zero_le _, rfl, rfl⟩
  case round =>
    obtain ⟨k, hk, rfl, rfl⟩ := hrel
    have hd := dots_le (s.data.toList.take k)
    have hl : (s.data.toList.take k).length ≤ k := List.length_take_le _ _
    by_cases hlt : k < s.size
    · have hsn := dots_snoc (s.data.toList.take k) s[k]
      have hts := take_snoc s k hlt
      have HS : Hid (dots (s.data.toList.take (k + 1)) = dots (s.data.toList.take k) + if ((s[k].toNat : Int) == 46) = true then 1 else 0) := by rw [hts]; exact hsn
      clear hsn hts
      cases hc : ((s[k].toNat : Int) == 46)
      all_goals
        go_wp2
        go_round
        case rel => exact ⟨k + 1, by omega, by go_num, by simp [HS.out, hc]⟩
        case measure => simp [intOf]; omega
    · go_wp2
      go_ret
      exact ⟨ret_int (by rw [List.take_of_length_le (by simp; omega)]), rfl⟩

/-! ### zzBytes -/
def zb (a b c : ByteArray) : Bool := decide (a.size + b.size + c.size ≤ 1048576)
theorem zb_yes {a b c : ByteArray} (h : a.size + b.size + c.size ≤ 1048576) : zb a b c = true := decide_eq_true h
theorem zb_no {a b c : ByteArray} (h : ¬ a.size + b.size + c.size ≤ 1048576) : zb a b c = false := decide_eq_false h
set_option maxHeartbeats 400000 in
theorem zz_any (a b c : ByteArray) (w : World) (ha : a.size ≤ maxLen) (hb : b.size ≤ maxLen) (hc : c.size ≤ maxLen) :
    Calls Try.prog 8 #[.string a, .string b, .string c] w fun e w' => e = .returned (.bool (zb a b c)) ∧ w' = w := by
  unfold maxLen at ha hb hc
  by_cases h1 : 1048576 < a.size
  · have hz : Hid (_) := zb_no (a := a) (b := b) (c := c) (by omega)
    go_enter Try.func8, Try.ntmps8
    go_wp2
    go_ret
    exact ⟨ret_bool hz.out.symm, rfl⟩
  by_cases h2 : 1048576 < b.size
  · have hz : Hid (_) := zb_no (a := a) (b := b) (c := c) (by omega)
    go_enter Try.func8, Try.ntmps8
    go_wp2
    go_ret
    exact ⟨ret_bool hz.out.symm, rfl⟩
  by_cases h3 : 1048576 < a.size + b.size
  · have hz : Hid (_) := zb_no (a := a) (b := b) (c := c) (by omega)
    go_enter Try.func8, Try.ntmps8
    go_wp2
    go_ret
    exact ⟨ret_bool hz.out.symm, rfl⟩
  by_cases h4 : 1048576 < c.size
  · have hz : Hid (_) := zb_no (a := a) (b := b) (c := c) (by omega)
    go_enter Try.func8, Try.ntmps8
    go_wp2
    go_ret
    exact ⟨ret_bool hz.out.symm, rfl⟩
  by_cases h5 : 1048576 < a.size + b.size + c.size
  · have hz : Hid (_) := zb_no (a := a) (b := b) (c := c) (by omega)
    go_enter Try.func8, Try.ntmps8
    go_wp2
    go_ret
    exact ⟨ret_bool hz.out.symm, rfl⟩
  · have hz : Hid (_) := zb_yes (a := a) (b := b) (c := c) (by omega)
    go_enter Try.func8, Try.ntmps8
    go_wp2
    go_ret
    exact ⟨ret_bool hz.out.symm, rfl⟩
end Go.Proofs.Qxb6605761a.Keys
