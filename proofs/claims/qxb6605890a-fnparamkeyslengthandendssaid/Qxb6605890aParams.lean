/-
  Params in memory, and the contracts of 'ZZnewParam' and 'paramsOf'.
-/
import Derived.Test.Qxb6605890aClone
import Derived.Test.Qxb6605890aZz13
import Derived.Deep.AppendLies
import Derived.Laws.EntriesVeiled
namespace Go.Proofs.Qxb6605890a.V
open Go.ChangeShapes Go.WideShapes Go.ChangeAt Go.RowKit

theorem hid {p : Prop} (h : p) : Hid p := h

/-- A param with the key s: its cells. -/
def prm (s : ByteArray) : List Value := [.string s, .string ⟨#[]⟩, .nilFunc]
def prms (ss : List ByteArray) : List Value := ss.flatMap prm
theorem prms_length (ss : List ByteArray) : (prms ss).length = ss.length * 3 := by
  unfold prms
  induction ss with
  | nil => rfl
  | cons s r ih => simp only [List.flatMap_cons, List.length_append, ih, List.length_cons]; simp [prm]; omega
theorem prms_add (a b : List ByteArray) : prms (a ++ b) = prms a ++ prms b := by unfold prms; rw [List.flatMap_append]
theorem prms_snoc (ss : List ByteArray) (k : Nat) (h : k < ss.length) : prms (ss.take (k + 1)) = prms (ss.take k) ++ prm (ss.getD k ByteArray.empty) := by
  rw [take_snoc ss k h, prms_add]; simp [prms]
theorem prm_one (s : ByteArray) : ∀ u ∈ prm s, u.oneCell' = true := by
  intro u hu
  simp only [prm, List.mem_cons, List.not_mem_nil, or_false] at hu
  rcases hu with rfl | rfl | rfl <;> rfl
theorem prms_at (ss : List ByteArray) (k j : Nat) (h : k < ss.length) (hj : j < 3) : (prms ss)[k * 3 + j]? = (prm (ss.getD k ByteArray.empty))[j]? := by
  have e : ss = ss.take k ++ (ss.getD k ByteArray.empty :: ss.drop (k + 1)) := by
    rw [getD_lt ss k h]; simp
  have hl : (prms (ss.take k)).length = k * 3 := by rw [prms_length, List.length_take]; congr 1; omega
  have e2 : prms ss = prms (ss.take k) ++ (prm (ss.getD k ByteArray.empty) ++ prms (ss.drop (k + 1))) := by
    conv => lhs; rw [e]
    rw [prms_add]
    rfl
  rw [e2, List.getElem?_append_right (by omega), hl, Nat.add_sub_cancel_left, List.getElem?_append_left (by simpa [prm] using hj)]

/-- The params of the strings ss lie at the head of block g. -/
def Prms (w : World) (g : Nat) (ss : List ByteArray) : Prop := g < w.heap.size ∧ ∀ j u, (prms ss)[j]? = some u → w.cell? ⟨g, j, none⟩ = some u
theorem Prms.at {w : World} {g : Nat} {ss : List ByteArray} (h : Prms w g ss) {w' : World} (hb : Below w.heap.size w w') (k : Nat) (hk : k < ss.length) (j : Nat) (hj : j < 3) : w'.cell? ⟨g, k * 3 + j, none⟩ = (prm (ss.getD k ByteArray.empty))[j]? := by
  rw [hb.cell (p := ⟨g, k * 3 + j, none⟩) h.1]
  have e := prms_at ss k j hk hj
  have hj' : j < (prm (ss.getD k ByteArray.empty)).length := by simpa [prm] using hj
  rw [← e]
  rw [List.getElem?_eq_getElem hj'] at e
  rw [e]
  exact h.2 _ _ e
theorem Prms.of_owns {w : World} {base g cap : Nat} {ss : List ByteArray} (h : w.ownsRow base 51 3 (.slice (some ⟨g, 0, none⟩) ss.length cap) ss.length (prms ss)) : Prms w g ss := by
  refine ⟨(h.lt g rfl).2, fun j u hu => ?_⟩
  have hj : j < ss.length * 3 := by
    have := (List.getElem?_eq_some_iff.1 hu).1
    rwa [prms_length] at this
  rw [h.cellAt j hj, hu]

def IsPrms (ss : List ByteArray) (e : Ending) (w : World) : Prop := ∃ g cap, e = .returned (.slice (some ⟨g, 0, none⟩) ss.length cap) ∧ Prms w g ss

theorem Try.info51 : (Try.prog.info? 51).map (fun i => (i.zero, i.size, i.bytes)) = some (some (.agg #[.string ⟨#[]⟩, .string ⟨#[]⟩, .nilFunc]), 3, 40) := by kernel_rfl

theorem heap_two (w : World) (o1 o2 : Obj) : ((w.alloc o1).alloc o2).heap[w.heap.size + 1]? = some o2 := by
  have h := heap_alloc_new (w.alloc o1) o2
  rwa [World.size_alloc] at h

set_option maxHeartbeats 400000 in
theorem newParam_any (s : ByteArray) (w : World) :
    Calls Try.prog 22 #[.string s] w fun e w' => e = .returned (.agg #[.string s, .string ⟨#[]⟩, .nilFunc]) ∧ w' = w.alloc (.cells #[.string s, .string ⟨#[]⟩, .nilFunc] 51) := by
  go_enter Try.func22, Try.ntmps22
  go_wp2
  exact bodyPost_ret (v := .agg #[.string s, .string ⟨#[]⟩, .nilFunc]) (by simp [results, Try.results22, go_sem]) rfl ⟨rfl, rfl⟩

set_option maxHeartbeats 1000000 in
theorem paramsOf_any (ao : Option Addr) (cap : Nat) (ss : List ByteArray) (w : World) (hS : Strs w ao ss) (hn : ss.length ≤ 65536) :
    Calls Try.prog 16 #[.slice ao ss.length cap] w fun e w' => IsPrms ss e w' ∧ Below w.heap.size w w' := by
  obtain ⟨i0, hi, hz0, hz1, hz2⟩ := info_parts Try.info51
  go_enter Try.func16, Try.ntmps16
  go_wp2_with (at_make; refine wpList_make_own _ rfl _ _ 41 rfl w.heap.size 51 i0 _ 3 Try.underlying41 hi hz0 hz1 _ _ _ ss.length rfl rfl rfl (by rw [hz2]; omega) (by unfold maxLen; omega) (Nat.le_refl _) ?_; intro w1 hown hgrow)
  have hB : Below w.heap.size w w1 := (Below.refl _ _).grown hgrow (Nat.le_refl _) (fun k hk => by cases hk)
  clear hgrow
  go_loopw [3, 4] (fun v i wr => ∃ k : Nat, k ≤ ss.length ∧ i = .int .i64 k ∧ v = .slice (some ⟨w.heap.size, 0, none⟩) k ss.length ∧ wr.ownsRow w.heap.size 51 3 (.slice (some ⟨w.heap.size, 0, none⟩) k ss.length) k (prms (ss.take k)) ∧ Below w.heap.size w wr) (fun _ i _ => ss.length - (intOf i).toNat)
  case atStart => exact ⟨0, Nat.zero_le _, rfl, rfl, hown, hB⟩
  case round =>
    obtain ⟨k, hk, rfl, rfl, hw, hbr⟩ := hrel
    clear hB hown
    have hsize := hbr.size
    by_cases hlt : k < ss.length
    · obtain ⟨b, off, hao, _, hck⟩ := (hS.below hbr).at k hlt
      have hst := hid (prms_snoc ss k hlt)
      generalize ss.getD k ByteArray.empty = s at hck hst
      subst hao
      go_wp2_with (first | (go_at_call 22; refine (newParam_any _ _).mono ?_; rintro e w' ⟨rfl, rfl⟩) | (at_builtin; refine wpList_append_fits _ rfl _ _ 41 rfl w.heap.size 51 i0 3 Try.underlying41 hi hz1 w.heap.size k ss.length _ rfl ((hw.alloc _).alloc _) ⟨wr.heap.size + 1, 0, none⟩ 1 1 (prm s) rfl rfl (World.news_of_block (heap_two wr _ _)) (prm_one s) (by omega) ?_; intro w2 hown2 hgrow2))
      rw [← hst.out] at hown2
      have H1 := hid hown2
      have H2 := hid (((hbr.alloc hsize _).alloc (by simp; omega) _).grown hgrow2 (by simp; omega) (fun j hj => by cases hj; exact Nat.le_refl _))
      clear hown2 hgrow2 hw hbr
      go_wp2
      go_roundw
      case rel => exact ⟨k + 1, by omega, by go_num, rfl, H1.out, H2.out⟩
      case measure => simp [intOf]; omega
    · obtain rfl : k = ss.length := by omega
      rw [List.take_length] at hw
      have HP := hid (Prms.of_owns hw)
      have HB := hid hbr
      clear hw hbr
      go_wp2
      go_ret
      exact ⟨⟨_, _, rfl, HP.out⟩, HB.out⟩
end Go.Proofs.Qxb6605890a.V
