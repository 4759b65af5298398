/-
  The contracts of 'paramKeys' and 'ZZparamKeys'.
-/
import Derived.Test.Qxb6605890aParams
import Derived.Test.Qxb6605890aSay
namespace Go.Proofs.Qxb6605890a.V
open Go.ChangeShapes Go.WideShapes Go.ChangeAt Go.RowKit

theorem map_str_snoc (ss : List ByteArray) (k : Nat) (h : k < ss.length) : (ss.take (k + 1)).map Value.string = (ss.take k).map Value.string ++ [.string (ss.getD k ByteArray.empty)] := by
  rw [take_snoc ss k h, List.map_append]; rfl
theorem str_one (s : ByteArray) : ∀ u ∈ [Value.string s], u.oneCell' = true := by
  intro u hu
  simp only [List.mem_cons, List.not_mem_nil, or_false] at hu
  subst hu
  rfl

set_option maxHeartbeats 1000000 in
theorem paramKeys_any (g cap : Nat) (ss : List ByteArray) (w : World) (hP : Prms w g ss) (hn : ss.length ≤ 65536) (hz : sz ss ≤ 1048576) :
    Calls Try.prog 21 #[.slice (some ⟨g, 0, none⟩) ss.length cap] w fun e w' => e = .returned (.string ⟨(say ss).toArray⟩) ∧ Below w.heap.size w w' := by
  obtain ⟨i0, hi, hz0, hz1, hz2⟩ := info_parts Try.info9
  go_enter Try.func21, Try.ntmps21
  go_wp2_with (at_make; refine wpList_make_own _ rfl _ _ 22 rfl w.heap.size 9 i0 _ 1 Try.underlying22 hi hz0 hz1 _ _ _ ss.length rfl rfl rfl (by rw [hz2]; omega) (by unfold maxLen; omega) (Nat.le_refl _) ?_; intro w1 hown hgrow)
  have hB : Below w.heap.size w w1 := (Below.refl _ _).grown hgrow (Nat.le_refl _) (fun k hk => by cases hk)
  clear hgrow
  go_loopw [3, 11] (fun v i wr => ∃ k : Nat, k ≤ ss.length ∧ i = .int .i64 k ∧ v = .slice (some ⟨w.heap.size, 0, none⟩) k ss.length ∧ wr.ownsRow w.heap.size 9 1 (.slice (some ⟨w.heap.size, 0, none⟩) k ss.length) k ((ss.take k).map Value.string) ∧ Below w.heap.size w wr) (fun _ i _ => ss.length - (intOf i).toNat)
  case atStart => exact ⟨0, Nat.zero_le _, rfl, rfl, hown, hB⟩
  case round =>
    obtain ⟨k, hk, rfl, rfl, hw, hbr⟩ := hrel
    clear hB hown
    have hsize := hbr.size
    by_cases hlt : k < ss.length
    · have hc := fun j hj => hP.at hbr k hlt j hj
      have hst := hid (map_str_snoc ss k hlt)
      generalize ss.getD k ByteArray.empty = s at hc hst
      have c0 : wr.cell? ⟨g, k * 3, none⟩ = some (.string s) := hc 0 (by omega)
      have c1 : wr.cell? ⟨g, k * 3 + 1, none⟩ = some (.string ⟨#[]⟩) := hc 1 (by omega)
      have c2 : wr.cell? ⟨g, k * 3 + 2, none⟩ = some .nilFunc := hc 2 (by omega)
      clear hc
      go_wp2_with (at_builtin; refine wpList_append_fits _ rfl _ _ 22 rfl w.heap.size 9 i0 1 Try.underlying22 hi hz1 w.heap.size k ss.length _ rfl ((hw.alloc _).alloc _) ⟨wr.heap.size + 1, 0, none⟩ 1 1 [.string s] rfl rfl (World.news_of_block (heap_two wr _ _)) (str_one s) (by omega) ?_; intro w2 hown2 hgrow2)
      rw [← hst.out] at hown2
      have H1 := hid hown2
      have H2 := hid (((hbr.alloc hsize _).alloc (by simp; omega) _).grown hgrow2 (by simp; omega) (fun j hj => by cases hj; exact Nat.le_refl _))
      clear hown2 hgrow2 hw hbr
      go_wp2
      go_roundw
      case rel => exact ⟨k + 1, by omega, by go_num, rfl, H1.out, H2.out⟩
      case measure => simp [intOf]; omega
    · obtain rfl : k = ss.length := by omega
      rw [List.take_length] at hw
      have HS := Strs.of_owns hw
      have HB := hid hbr
      clear hw hbr
      go_wp2_with (go_at_call 23; refine (sayList_any _ _ _ _ HS (Nat.le_refl _) hn hz (by omega)).mono ?_; rintro e w2 ⟨rfl, hb2⟩)
      go_ret
      exact ⟨rfl, HB.out.trans (Below.mono ‹_› hsize)⟩

theorem ZZparamKeys_any (g cap : Nat) (ss : List ByteArray) (w : World) (hP : Prms w g ss) (hn : ss.length ≤ 65536) (hz : sz ss ≤ 1048576) :
    Calls Try.prog 15 #[.slice (some ⟨g, 0, none⟩) ss.length cap] w fun e w' => e = .returned (.string ⟨(say ss).toArray⟩) ∧ Below w.heap.size w w' := by
  go_enter Try.func15, Try.ntmps15
  go_wp2_with (go_at_call 21; refine (paramKeys_any _ _ _ _ hP hn hz).mono ?_; rintro e w2 ⟨rfl, hb2⟩)
  go_ret
  exact ⟨rfl, ‹_›⟩
end Go.Proofs.Qxb6605890a.V
