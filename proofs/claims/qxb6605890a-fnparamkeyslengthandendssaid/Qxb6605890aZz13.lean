/-
  The contract of the byte counter over two slices.
-/
import Derived.Test.Qxb6605890aView
namespace Go.Proofs.Qxb6605890a.V
open Go.ChangeShapes Go.WideShapes Go.ChangeAt Go.RowKit

theorem Strs.at {w : World} {ao : Option Addr} {ss : List ByteArray} (h : Strs w ao ss) (k : Nat) (hk : k < ss.length) : ∃ b off, ao = some ⟨b, off, none⟩ ∧ b < w.heap.size ∧ w.cell? ⟨b, off + k, none⟩ = some (.string (ss.getD k ByteArray.empty)) := by
  rcases h with rfl | ⟨b, off, h1, h2, h3⟩
  · simp at hk
  · exact ⟨b, off, h1, h2, h3 k hk⟩

set_option maxHeartbeats 2000000 in
theorem zz13 (ao : Option Addr) (cap : Nat) (ss : List ByteArray) (ao' : Option Addr) (cap' : Nat) (ss' : List ByteArray) (w : World) (hS : Strs w ao ss) (hn : ss.length ≤ maxLen) (hsz : ∀ s ∈ ss, s.size ≤ maxLen)
    (hS' : Strs w ao' ss') (hn' : ss'.length ≤ maxLen) (hsz' : ∀ s ∈ ss', s.size ≤ maxLen) :
    Calls Try.prog 13 #[.slice ao ss.length cap, .slice ao' ss'.length cap'] w fun e w' => IsBool e ∧ w' = w := by
  unfold maxLen at hn hn'
  by_cases hbig : 1048576 < ss.length
  · go_enter Try.func13, Try.ntmps13
    go_wp2
    go_ret
    exact ⟨⟨_, rfl⟩, rfl⟩
  go_enter Try.func13, Try.ntmps13
  go_wp2
  go_loop [5, 6] (fun z i => ∃ k m : Nat, k ≤ ss.length ∧ m ≤ 1048576 ∧ i = .int .i64 k ∧ z = .int .i64 m) (fun _ i => ss.length - (intOf i).toNat)
  case atStart => exact ⟨0, ss.length, Nat.zero_le _, by omega, rfl, rfl⟩
  case round =>
    obtain ⟨k, m, hk, hm, rfl, rfl⟩ := hrel
    by_cases hlt : k < ss.length
    · obtain ⟨b, off, hao, _, hck⟩ := hS.at k hlt
      have hsk : (ss.getD k ByteArray.empty).size ≤ maxLen := hsz _ (mem_getD ss k hlt)
      generalize ss.getD k ByteArray.empty = s at hck hsk
      unfold maxLen at hsk
      subst hao
      by_cases h1 : 1048576 < s.size
      · go_wp2
        go_ret
        exact ⟨⟨_, rfl⟩, rfl⟩
      by_cases h2 : 1048576 < m + s.size
      · go_wp2
        go_ret
        exact ⟨⟨_, rfl⟩, rfl⟩
      · go_wp2
        go_round
        case rel => exact ⟨k + 1, m + s.size, by omega, by omega, by go_num, by go_num⟩
        case measure => simp [intOf]; omega
    · by_cases hb1 : 1048576 < ss'.length
      · go_wp2
        go_ret
        exact ⟨⟨_, rfl⟩, rfl⟩
      by_cases hb2 : 1048576 < m + ss'.length
      · go_wp2
        go_ret
        exact ⟨⟨_, rfl⟩, rfl⟩
      go_wp2
      go_loop [5, 7] (fun z i => ∃ k m : Nat, k ≤ ss'.length ∧ m ≤ 1048576 ∧ i = .int .i64 k ∧ z = .int .i64 m) (fun _ i => ss'.length - (intOf i).toNat)
      case atStart => exact ⟨0, m + ss'.length, Nat.zero_le _, by omega, rfl, by go_num⟩
      case round =>
        obtain ⟨k, m, hk, hm, rfl, rfl⟩ := hrel
        by_cases hlt : k < ss'.length
        · obtain ⟨b, off, hao, _, hck⟩ := hS'.at k hlt
          have hsk : (ss'.getD k ByteArray.empty).size ≤ maxLen := hsz' _ (mem_getD ss' k hlt)
          generalize ss'.getD k ByteArray.empty = s at hck hsk
          unfold maxLen at hsk
          subst hao
          by_cases h1 : 1048576 < s.size
          · go_wp2
            go_ret
            exact ⟨⟨_, rfl⟩, rfl⟩
          by_cases h2 : 1048576 < m + s.size
          · go_wp2
            go_ret
            exact ⟨⟨_, rfl⟩, rfl⟩
          · go_wp2
            go_round
            case rel => exact ⟨k + 1, m + s.size, by omega, by omega, by go_num, by go_num⟩
            case measure => simp [intOf]; omega
        · go_wp2
          go_ret
          exact ⟨⟨_, rfl⟩, rfl⟩
end Go.Proofs.Qxb6605890a.V
