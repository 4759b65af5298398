/-
  What a slice of strings leads to ('Strs'), and the contracts of the functions that only read one: the byte counters and 'stringsBytes'.
-/
import Derived.Test.Qxb6605890aRows
import Derived.WalkKit
import Derived.ProofKit
import Derived.OpenShut
import Derived.ShutString
namespace Go.Proofs.Qxb6605890a.V
open Go.ChangeShapes Go.WideShapes Go.ChangeAt Go.RowKit

/-- The slice at 'ao' leads to the strings ss: it is empty; or they lie in one row of cells. -/
def Strs (w : World) (ao : Option Addr) (ss : List ByteArray) : Prop :=
  ss = [] ∨ ∃ b off, ao = some ⟨b, off, none⟩ ∧ b < w.heap.size ∧ ∀ i, i < ss.length → w.cell? ⟨b, off + i, none⟩ = some (.string (ss.getD i ByteArray.empty))

theorem Strs.below {w w' : World} {ao : Option Addr} {ss : List ByteArray} (h : Strs w ao ss) (hb : Below w.heap.size w w') : Strs w' ao ss := by
  rcases h with h | ⟨b, off, h1, h2, h3⟩
  · exact .inl h
  · exact .inr ⟨b, off, h1, Nat.lt_of_lt_of_le h2 hb.size, fun i hi => (hb.cell (p := ⟨b, off + i, none⟩) h2).trans (h3 i hi)⟩

theorem ret_int {k : IntKind} {a b : Int} (h : a = b) : Ending.returned (.int k a) = .returned (.int k b) := by rw [h]
theorem ret_bool {a b : Bool} (h : a = b) : Ending.returned (.bool a) = .returned (.bool b) := by rw [h]

/-- All bytes of the first k strings. -/
def sz (ss : List ByteArray) : Nat := (ss.map ByteArray.size).sum
theorem sz_add (a b : List ByteArray) : sz (a ++ b) = sz a + sz b := by unfold sz; rw [List.map_append, List.sum_append]
theorem getD_lt (ss : List ByteArray) (k : Nat) (h : k < ss.length) : ss.getD k ByteArray.empty = ss[k] := by
  rw [List.getD_eq_getElem?_getD, List.getElem?_eq_getElem h]; rfl
theorem take_snoc (ss : List ByteArray) (k : Nat) (h : k < ss.length) : ss.take (k + 1) = ss.take k ++ [ss.getD k ByteArray.empty] := by
  rw [getD_lt ss k h, List.take_succ_eq_append_getElem h]
theorem sz_snoc (ss : List ByteArray) (k : Nat) (h : k < ss.length) : sz (ss.take (k + 1)) = sz (ss.take k) + (ss.getD k ByteArray.empty).size := by
  rw [take_snoc ss k h, sz_add]
  simp [sz]
theorem sz_take_le (ss : List ByteArray) (k : Nat) : sz (ss.take k) ≤ sz ss := by
  have e := sz_add (ss.take k) (ss.drop k)
  rw [List.take_append_drop] at e
  omega
theorem sz_mem (ss : List ByteArray) (k : Nat) (h : k < ss.length) : (ss.getD k ByteArray.empty).size ≤ sz ss := by
  have h1 := sz_snoc ss k h
  have h2 := sz_take_le ss (k + 1)
  omega
theorem mem_getD (ss : List ByteArray) (k : Nat) (h : k < ss.length) : ss.getD k ByteArray.empty ∈ ss := by
  rw [getD_lt ss k h]; exact List.getElem_mem h

/-- The call answered a bool, whichever. -/
def IsBool (e : Ending) : Prop := ∃ r : Bool, e = .returned (.bool r)

set_option maxHeartbeats 1000000 in
theorem zz7 (ao : Option Addr) (cap : Nat) (ss : List ByteArray) (w : World) (hS : Strs w ao ss) (hn : ss.length ≤ maxLen) (hsz : ∀ s ∈ ss, s.size ≤ maxLen) :
    Calls Try.prog 7 #[.slice ao ss.length cap] w fun e w' => IsBool e ∧ w' = w := by
  unfold maxLen at hn
  by_cases hbig : 1048576 < ss.length
  · go_enter Try.func7, Try.ntmps7
    go_wp2
    go_ret
    exact ⟨⟨_, rfl⟩, rfl⟩
  rcases hS with rfl | ⟨b, off, rfl, _, hc⟩
  · go_enter Try.func7, Try.ntmps7
    go_wp2
    refine wp_loop_rounds 1 ?_
    rw [rounds_succ]
    go_wp2
    go_ret
    exact ⟨⟨_, rfl⟩, rfl⟩
  · have Hc : Hid (_) := hc
    clear hc
    go_enter Try.func7, Try.ntmps7
    go_wp2
    go_loop [3, 4] (fun z i => ∃ k m : Nat, k ≤ ss.length ∧ m ≤ 1048576 ∧ i = .int .i64 k ∧ z = .int .i64 m) (fun _ i => ss.length - (intOf i).toNat)
    case atStart => exact ⟨0, ss.length, Nat.zero_le _, by omega, rfl, rfl⟩
    case round =>
      obtain ⟨k, m, hk, hm, rfl, rfl⟩ := hrel
      by_cases hlt : k < ss.length
      · have hck := Hc.out k hlt
        have hsk : (ss.getD k ByteArray.empty).size ≤ maxLen := hsz _ (mem_getD ss k hlt)
        generalize ss.getD k ByteArray.empty = s at hck hsk
        unfold maxLen at hsk
        by_cases h1 : 1048576 < s.size
        · go_wp2
          go_ret
          exact ⟨⟨_, rfl⟩, rfl⟩
        by_cases h2 : 1048576 < m + s.size
        · go_wp2
          go_ret
          exact ⟨⟨_, rfl⟩, rfl⟩
        · go_wp2
          go_round
          case rel => exact ⟨k + 1, m + s.size, by omega, by omega, by go_num, by go_num⟩
          case measure => simp [intOf]; omega
      · go_wp2
        go_ret
        exact ⟨⟨_, rfl⟩, rfl⟩

set_option maxHeartbeats 1000000 in
theorem zz14 (ao : Option Addr) (cap : Nat) (ss : List ByteArray) (w : World) (hS : Strs w ao ss) (hn : ss.length ≤ maxLen) (hsz : ∀ s ∈ ss, s.size ≤ maxLen) :
    Calls Try.prog 14 #[.slice ao ss.length cap] w fun e w' => IsBool e ∧ w' = w := by
  unfold maxLen at hn
  by_cases hbig : 1048576 < ss.length
  · go_enter Try.func14, Try.ntmps14
    go_wp2
    go_ret
    exact ⟨⟨_, rfl⟩, rfl⟩
  rcases hS with rfl | ⟨b, off, rfl, _, hc⟩
  · go_enter Try.func14, Try.ntmps14
    go_wp2
    refine wp_loop_rounds 1 ?_
    rw [rounds_succ]
    go_wp2
    go_ret
    exact ⟨⟨_, rfl⟩, rfl⟩
  · have Hc : Hid (_) := hc
    clear hc
    go_enter Try.func14, Try.ntmps14
    go_wp2
    go_loop [3, 4] (fun z i => ∃ k m : Nat, k ≤ ss.length ∧ m ≤ 1048576 ∧ i = .int .i64 k ∧ z = .int .i64 m) (fun _ i => ss.length - (intOf i).toNat)
    case atStart => exact ⟨0, ss.length, Nat.zero_le _, by omega, rfl, rfl⟩
    case round =>
      obtain ⟨k, m, hk, hm, rfl, rfl⟩ := hrel
      by_cases hlt : k < ss.length
      · have hck := Hc.out k hlt
        have hsk : (ss.getD k ByteArray.empty).size ≤ maxLen := hsz _ (mem_getD ss k hlt)
        generalize ss.getD k ByteArray.empty = s at hck hsk
        unfold maxLen at hsk
        by_cases h1 : 1048576 < s.size
        · go_wp2
          go_ret
          exact ⟨⟨_, rfl⟩, rfl⟩
        by_cases h2 : 1048576 < m + s.size
        · go_wp2
          go_ret
          exact ⟨⟨_, rfl⟩, rfl⟩
        · go_wp2
          go_round
          case rel => exact ⟨k + 1, m + s.size, by omega, by omega, by go_num, by go_num⟩
          case measure => simp [intOf]; omega
      · go_wp2
        go_ret
        exact ⟨⟨_, rfl⟩, rfl⟩

set_option maxHeartbeats 1000000 in
theorem zz17 (ao : Option Addr) (cap : Nat) (ss : List ByteArray) (w : World) (hS : Strs w ao ss) (hn : ss.length ≤ maxLen) (hsz : ∀ s ∈ ss, s.size ≤ maxLen) :
    Calls Try.prog 17 #[.slice ao ss.length cap] w fun e w' => IsBool e ∧ w' = w := by
  unfold maxLen at hn
  by_cases hbig : 1048576 < ss.length
  · go_enter Try.func17, Try.ntmps17
    go_wp2
    go_ret
    exact ⟨⟨_, rfl⟩, rfl⟩
  rcases hS with rfl | ⟨b, off, rfl, _, hc⟩
  · go_enter Try.func17, Try.ntmps17
    go_wp2
    refine wp_loop_rounds 1 ?_
    rw [rounds_succ]
    go_wp2
    go_ret
    exact ⟨⟨_, rfl⟩, rfl⟩
  · have Hc : Hid (_) := hc
    clear hc
    go_enter Try.func17, Try.ntmps17
    go_wp2
    go_loop [3, 4] (fun z i => ∃ k m : Nat, k ≤ ss.length ∧ m ≤ 1048576 ∧ i = .int .i64 k ∧ z = .int .i64 m) (fun _ i => ss.length - (intOf i).toNat)
    case atStart => exact ⟨0, ss.length, Nat.zero_le _, by omega, rfl, rfl⟩
    case round =>
      obtain ⟨k, m, hk, hm, rfl, rfl⟩ := hrel
      by_cases hlt : k < ss.length
      · have hck := Hc.out k hlt
        have hsk : (ss.getD k ByteArray.empty).size ≤ maxLen := hsz _ (mem_getD ss k hlt)
        generalize ss.getD k ByteArray.empty = s at hck hsk
        unfold maxLen at hsk
        by_cases h1 : 1048576 < s.size
        · go_wp2
          go_ret
          exact ⟨⟨_, rfl⟩, rfl⟩
        by_cases h2 : 1048576 < m + s.size
        · go_wp2
          go_ret
          exact ⟨⟨_, rfl⟩, rfl⟩
        · go_wp2
          go_round
          case rel => exact ⟨k + 1, m + s.size, by omega, by omega, by go_num, by go_num⟩
          case measure => simp [intOf]; omega
      · go_wp2
        go_ret
        exact ⟨⟨_, rfl⟩, rfl⟩

/-- What 'stringsBytes' answers: the bytes that the list reaches, if they are within the ceiling; else 2^21. -/
def SbOk (ss : List ByteArray) (t : Int) : Prop := t = 2097152 ∨ (t = ((16 * ss.length + sz ss : Nat) : Int) ∧ 16 * ss.length + sz ss ≤ 1048576)
theorem SbOk.bd {ss : List ByteArray} {t : Int} (h : SbOk ss t) : 0 ≤ t ∧ t ≤ 2097152 := by
  rcases h with h | ⟨h, h'⟩ <;> omega
theorem SbOk.small {ss : List ByteArray} {t : Int} (h : SbOk ss t) (ht : t ≤ 1048576) : t = ((16 * ss.length + sz ss : Nat) : Int) ∧ 16 * ss.length + sz ss ≤ 1048576 := by
  rcases h with h | h
  · omega
  · exact h
/-- The call answered an int t as SbOk says. -/
def IsSb (ss : List ByteArray) (e : Ending) : Prop := ∃ t : Int, e = .returned (.int .i64 t) ∧ SbOk ss t

set_option maxHeartbeats 1000000 in
theorem stringsBytes_any (ao : Option Addr) (cap : Nat) (ss : List ByteArray) (w : World) (hS : Strs w ao ss) (hn : ss.length ≤ maxLen) (hsz : ∀ s ∈ ss, s.size ≤ maxLen) :
    Calls Try.prog 8 #[.slice ao ss.length cap] w fun e w' => IsSb ss e ∧ w' = w := by
  unfold maxLen at hn
  by_cases hbig : 65536 < ss.length
  · go_enter Try.func8, Try.ntmps8
    go_wp2
    go_ret
    exact ⟨⟨_, rfl, .inl rfl⟩, rfl⟩
  rcases hS with rfl | ⟨b, off, rfl, _, hc⟩
  · go_enter Try.func8, Try.ntmps8
    go_wp2
    refine wp_loop_rounds 1 ?_
    rw [rounds_succ]
    go_wp2
    go_ret
    exact ⟨⟨_, rfl, .inr ⟨rfl, by simp [sz]⟩⟩, rfl⟩
  · have Hc : Hid (_) := hc
    clear hc
    go_enter Try.func8, Try.ntmps8
    go_wp2
    go_loop [3, 4] (fun z i => ∃ k : Nat, k ≤ ss.length ∧ 16 * ss.length + sz (ss.take k) ≤ 1048576 ∧ i = .int .i64 k ∧ z = .int .i64 (16 * (ss.length : Int) + (sz (ss.take k) : Int))) (fun _ i => ss.length - (intOf i).toNat)
    case atStart => exact ⟨0, Nat.zero_le _, by simp [sz]; omega, rfl, by simp [sz]⟩
    case round =>
      obtain ⟨k, hk, hm, rfl, rfl⟩ := hrel
      by_cases hlt : k < ss.length
      · have hck := Hc.out k hlt
        have hsk : (ss.getD k ByteArray.empty).size ≤ maxLen := hsz _ (mem_getD ss k hlt)
        have hst : Hid (_) := sz_snoc ss k hlt
        generalize ss.getD k ByteArray.empty = s at hck hsk hst
        unfold maxLen at hsk
        generalize sz (ss.take k) = m at hm hst
        by_cases h1 : 1048576 < s.size
        · go_wp2
          go_ret
          exact ⟨⟨_, rfl, .inl rfl⟩, rfl⟩
        by_cases h2 : 1048576 < 16 * ss.length + m + s.size
        · go_wp2
          go_ret
          exact ⟨⟨_, rfl, .inl rfl⟩, rfl⟩
        · go_wp2
          go_round
          case rel => exact ⟨k + 1, by omega, by rw [hst.out]; omega, by go_num, by rw [hst.out]; go_num⟩
          case measure => simp [intOf]; omega
      · have hkl : ss.take k = ss := List.take_of_length_le (by omega)
        have Hk : Hid (_) := hkl
        clear hkl
        go_wp2
        go_ret
        exact ⟨⟨_, rfl, .inr (by rw [Hk.out] at hm ⊢; exact ⟨by simp, hm⟩)⟩, rfl⟩

end Go.Proofs.Qxb6605890a.V
