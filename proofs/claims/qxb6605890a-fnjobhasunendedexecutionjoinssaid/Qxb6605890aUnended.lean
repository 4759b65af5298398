/-
  The contract of 'HasUnendedExecution'.
-/
import Derived.Test.Qxb6605890aJob
namespace Go.Proofs.Qxb6605890a.V
open Go.ChangeShapes Go.WideShapes Go.ChangeAt Go.RowKit

theorem execs_at (ss : List ByteArray) (k j : Nat) (h : k < ss.length) (hj : j < 12) : (execs ss)[k * 12 + j]? = (exec (ss.getD k ByteArray.empty))[j]? := by
  have e : ss = ss.take k ++ (ss.getD k ByteArray.empty :: ss.drop (k + 1)) := by
    rw [getD_lt ss k h]; simp
  have hl : (execs (ss.take k)).length = k * 12 := by rw [execs_length, List.length_take]; congr 1; omega
  have e2 : execs ss = execs (ss.take k) ++ (exec (ss.getD k ByteArray.empty) ++ execs (ss.drop (k + 1))) := by
    conv => lhs; rw [e]
    rw [execs_add]
    rfl
  rw [e2, List.getElem?_append_right (by omega), hl, Nat.add_sub_cancel_left, List.getElem?_append_left (by simpa [exec] using hj)]

theorem Execs.at {w : World} {g : Nat} {ss : List ByteArray} (h : Execs w g ss) {w' : World} (hb : Below w.heap.size w w') (k : Nat) (hk : k < ss.length) (j : Nat) (hj : j < 12) : w'.cell? ⟨g, k * 12 + j, none⟩ = (exec (ss.getD k ByteArray.empty))[j]? := by
  rw [hb.cell (p := ⟨g, k * 12 + j, none⟩) h.1]
  have e := execs_at ss k j hk hj
  have hj' : j < (exec (ss.getD k ByteArray.empty)).length := by simpa [exec] using hj
  rw [← e]
  rw [List.getElem?_eq_getElem hj'] at e
  rw [e]
  exact h.2 _ _ e

theorem un_take_snoc (ss : List ByteArray) (k : Nat) (h : k < ss.length) : un (ss.take (k + 1)) = (un (ss.take k) || !ended (ss.getD k ByteArray.empty)) := by
  rw [take_snoc ss k h, un_add]
  simp [un]
theorem un_true (ss : List ByteArray) (k : Nat) (h : k < ss.length) (he : ended (ss.getD k ByteArray.empty) = false) : un ss = true := by
  unfold un
  rw [List.any_eq_true]
  exact ⟨_, mem_getD ss k h, by rw [he]; rfl⟩

set_option maxHeartbeats 1000000 in
theorem unended_any (g cap : Nat) (ss : List ByteArray) (w : World) (hE : Execs w g ss) (hn : ss.length ≤ 65536) :
    Calls Try.prog 11 #[job (.slice (some ⟨g, 0, none⟩) ss.length cap)] w fun e w' => e = .returned (.bool (un ss)) ∧ Below w.heap.size w w' := by
  unfold job
  go_enter Try.func11, Try.ntmps11
  go_wp2
  go_loopw [8] (fun i wr => ∃ k : Nat, k ≤ ss.length ∧ i = .int .i64 k ∧ un (ss.take k) = false ∧ Below w.heap.size w wr) (fun i _ => ss.length - (intOf i).toNat)
  case atStart => exact ⟨0, Nat.zero_le _, rfl, rfl, (Below.refl _ _).alloc (Nat.le_refl _) _⟩
  case round =>
    obtain ⟨k, hk, rfl, hun, hbr⟩ := hrel
    have Hun := hide hun
    clear hun
    by_cases hlt : k < ss.length
    · have hc := fun j hj => hE.at hbr k hlt j hj
      have hst := hide (un_take_snoc ss k hlt)
      have htr := hide (un_true ss k hlt)
      generalize ss.getD k ByteArray.empty = s at hc hst htr
      have c0 : wr.cell? ⟨g, k * 12, none⟩ = some (.string ⟨#[]⟩) := hc 0 (by omega)
      have c1 : wr.cell? ⟨g, k * 12 + 1, none⟩ = some (.string ⟨#[]⟩) := hc 1 (by omega)
      have c2 : wr.cell? ⟨g, k * 12 + 2, none⟩ = some (.string ⟨#[]⟩) := hc 2 (by omega)
      have c3 : wr.cell? ⟨g, k * 12 + 3, none⟩ = some (.string ⟨#[]⟩) := hc 3 (by omega)
      have c4 : wr.cell? ⟨g, k * 12 + 4, none⟩ = some (.string s) := hc 4 (by omega)
      have c5 : wr.cell? ⟨g, k * 12 + 5, none⟩ = some (.string ⟨#[]⟩) := hc 5 (by omega)
      have c6 : wr.cell? ⟨g, k * 12 + 6, none⟩ = some (.pointer none) := hc 6 (by omega)
      have c7 : wr.cell? ⟨g, k * 12 + 7, none⟩ = some (.int .i64 0) := hc 7 (by omega)
      have c8 : wr.cell? ⟨g, k * 12 + 8, none⟩ = some (.int .i64 0) := hc 8 (by omega)
      have c9 : wr.cell? ⟨g, k * 12 + 9, none⟩ = some (.int .i64 0) := hc 9 (by omega)
      have c10 : wr.cell? ⟨g, k * 12 + 10, none⟩ = some (.int .i64 0) := hc 10 (by omega)
      have c11 : wr.cell? ⟨g, k * 12 + 11, none⟩ = some (.string ⟨#[]⟩) := hc 11 (by omega)
      have hsize := hbr.size
      have Hb := hide hbr
      clear hc hbr
      cases he : ended s
      · go_wp2_with (go_at_call 20; refine (Terminal_any _ _).mono ?_; rintro e w' ⟨rfl, rfl⟩)
        go_ret
        exact ⟨ret_bool (htr.out he).symm, Hb.out.alloc hsize _⟩
      · go_wp2_with (go_at_call 20; refine (Terminal_any _ _).mono ?_; rintro e w' ⟨rfl, rfl⟩)
        go_roundw
        case rel => exact ⟨k + 1, by omega, by go_num, by rw [hst.out, Hun.out, he]; rfl, Hb.out.alloc hsize _⟩
        case measure => simp [intOf]; omega
    · have Hb := hide hbr
      clear hbr
      go_wp2
      go_ret
      exact ⟨ret_bool (by rw [List.take_of_length_le (show ss.length ≤ k by omega)] at Hun; exact Hun.out.symm), Hb.out⟩
end Go.Proofs.Qxb6605890a.V
