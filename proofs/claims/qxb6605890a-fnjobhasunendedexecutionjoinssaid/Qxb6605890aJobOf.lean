/-
  The contract of 'jobOf'.
-/
import Derived.Test.Qxb6605890aJob
namespace Go.Proofs.Qxb6605890a.V
open Go.ChangeShapes Go.WideShapes Go.ChangeAt Go.RowKit

set_option maxHeartbeats 1000000 in
theorem jobOf_row (b off : Nat) (cap : Nat) (ss : List ByteArray) (w : World) (hb : b < w.heap.size) (hc : ∀ i, i < ss.length → w.cell? ⟨b, off + i, none⟩ = some (.string (ss.getD i ByteArray.empty))) (hn : ss.length ≤ 65536) :
    Calls Try.prog 10 #[.slice (some ⟨b, off, none⟩) ss.length cap] w fun e w' => IsJob ss e w' ∧ Below w.heap.size w w' := by
  obtain ⟨i0, hi, hz0, hz1, hz2⟩ := info_parts Try.info46
  have Hc := hide hc
  clear hc
  go_enter Try.func10, Try.ntmps10
  go_wp2_with (at_make; refine wpList_make_own _ rfl _ _ 34 rfl (w.heap.size + 1) 46 i0 _ 12 Try.underlying34 hi hz0 hz1 _ _ _ ss.length rfl rfl rfl (by rw [hz2]; omega) (by unfold maxLen; omega) (by simp) ?_; intro w1 hown hgrow)
  have hB : Below (w.heap.size + 1) (w.alloc jobZero) w1 := (Below.refl _ _).grown hgrow (by simp) (fun k hk => by cases hk)
  have hown2 : w1.ownsRow (w.heap.size + 1) 46 12 (.slice (some ⟨w.heap.size + 1, 0, none⟩) 0 ss.length) 0 [] := by simpa using hown
  clear hown hgrow
  go_loopw [3, 4] (fun v i wr => ∃ k : Nat, k ≤ ss.length ∧ i = .int .i64 k ∧ v = .slice (some ⟨w.heap.size + 1, 0, none⟩) k ss.length ∧ wr.ownsRow (w.heap.size + 1) 46 12 (.slice (some ⟨w.heap.size + 1, 0, none⟩) k ss.length) k (execs (ss.take k)) ∧ Below (w.heap.size + 1) (w.alloc jobZero) wr) (fun _ i _ => ss.length - (intOf i).toNat)
  case atStart => exact ⟨0, Nat.zero_le _, rfl, rfl, hown2, hB⟩
  case round =>
    obtain ⟨k, hk, rfl, rfl, hw, hbr⟩ := hrel
    clear hB hown2
    have hsize := hbr.size
    simp only [World.size_alloc] at hsize
    by_cases hlt : k < ss.length
    · have hck : wr.cell? ⟨b, off + k, none⟩ = some (.string (ss.getD k ByteArray.empty)) := ((hbr.cell (p := ⟨b, off + k, none⟩) (show b < w.heap.size + 1 by omega)).trans (((Below.refl w.heap.size w).alloc (Nat.le_refl _) jobZero).cell (p := ⟨b, off + k, none⟩) hb)).trans (Hc.out k hlt)
      have hst := hide (execs_snoc ss k hlt)
      generalize ss.getD k ByteArray.empty = s at hck hst
      go_wp2_with (at_builtin; refine wpList_append_fits _ rfl _ _ 34 rfl (w.heap.size + 1) 46 i0 12 Try.underlying34 hi hz1 (w.heap.size + 1) k ss.length _ rfl (hw.alloc _) ⟨wr.heap.size, 0, none⟩ 1 1 (exec s) rfl rfl (World.news_of_block (heap_alloc_new wr _)) (exec_one s) (by omega) ?_; intro w2 hown2 hgrow2)
      have R1 := hown2
      rw [← hst.out] at R1
      have R2 : Below (w.heap.size + 1) (w.alloc jobZero) w2 := (hbr.alloc (by omega) _).grown hgrow2 (by simp; omega) (fun j hj => by cases hj; exact Nat.le_refl _)
      have H1 := hide R1
      have H2 := hide R2
      clear R1 R2 hown2 hgrow2 hw hbr
      go_wp2
      go_roundw
      case rel => exact ⟨k + 1, by omega, by go_num, rfl, H1.out, H2.out⟩
      case measure => simp [intOf]; omega
    · obtain rfl : k = ss.length := by omega
      rw [List.take_length] at hw
      have hblk := job_block hbr
      have hcl : ∀ j, wr.cell? ⟨w.heap.size, j, none⟩ = (#[.string ⟨#[]⟩, .string ⟨#[]⟩, .string ⟨#[]⟩, .string ⟨#[]⟩, .int .i64 0, .int .i64 0, .map none, .map none, .slice none 0 0, .slice none 0 0, .string ⟨#[]⟩, .string ⟨#[]⟩, .int .i64 0, .int .i64 0, .int .i64 0, .slice none 0 0] : Array Value)[j]? := fun j => cell_of_row wr _ j _ _ _ hblk
      have hfr : ∀ j, wr.frozen? ⟨w.heap.size, j, none⟩ = false := fun j => frozen_of_row wr _ j _ _ hblk
      have HT := hide (fun W' ho => job_tail (ss := ss) (W' := W') hbr hw ho)
      clear hw hbr hblk
      go_wp2
      refine bodyPost_ret (v := job (.slice (some ⟨w.heap.size + 1, 0, none⟩) ss.length ss.length)) (by simp [results, Try.results10, go_sem, hcl, job]) rfl ?_
      refine ⟨⟨w.heap.size + 1, ss.length, rfl, (HT.out _ ?_).1⟩, (HT.out _ ?_).2⟩
      all_goals
        iterate 16 (refine Oth.set ?_ _ _)
        exact Oth.refl _ _

theorem jobOf_any (ao : Option Addr) (cap : Nat) (ss : List ByteArray) (w : World) (hS : Strs w ao ss) (hn : ss.length ≤ 65536) :
    Calls Try.prog 10 #[.slice ao ss.length cap] w fun e w' => IsJob ss e w' ∧ Below w.heap.size w w' := by
  rcases hS with rfl | ⟨b, off, rfl, hb, hc⟩
  · exact jobOf_nil ao cap w
  · exact jobOf_row b off cap ss w hb hc hn
end Go.Proofs.Qxb6605890a.V
