/-
  The contract of 'sayList'.
-/
import Derived.Test.Qxb6605890aZz13
import Derived.Test.Qxb6605890aShelf
import Derived.Lib.Join
import Derived.Deep.RegionHeld3
namespace Go.Proofs.Qxb6605890a.V
open Go.ChangeShapes Go.WideShapes Go.ChangeAt Go.RowKit

/-- What 'sayList' answers, as bytes. -/
def say (ss : List ByteArray) : List UInt8 :=
  if ss.length = 0 then [110, 111, 110, 101] else if ss.length = 1 then (ss.getD 0 ByteArray.empty).data.toList
  else Lib.join ((ss.take (ss.length - 1)).map (·.data.toList)) [44, 32] ++ [32, 97, 110, 100, 32] ++ (ss.getD (ss.length - 1) ByteArray.empty).data.toList

theorem lens_sz (ss : List ByteArray) : Lib.lens (ss.map (·.data.toList)) = sz ss := by
  unfold Lib.lens sz
  rw [List.map_map]
  rfl
theorem join_len_le (ss : List ByteArray) : (Lib.join (ss.map (·.data.toList)) [44, 32]).length ≤ 2 * ss.length + sz ss := by
  cases ss with
  | nil => simp [Lib.join_nil]
  | cons s r =>
    rw [List.map_cons, Lib.join_length, ← List.map_cons (f := fun x : ByteArray => x.data.toList), lens_sz]
    simp
    omega

theorem join_row {W : World} (b off c : Nat) (ss : List ByteArray) (n : Nat) (hn : n ≤ ss.length) (hc : Hid (∀ i, i < ss.length → W.cell? ⟨b, off + i, none⟩ = some (.string (ss.getD i ByteArray.empty)))) (hb : b < W.heap.size) (hcap : ss.length ≤ c) (hl : ss.length ≤ 65536) (hz : sz ss ≤ 1048576)
    (w : World) (hw : Below W.heap.size W w) :
    Calls Try.prog 24 #[.slice (some ⟨b, off, none⟩) n c, .string ⟨#[44, 32]⟩] w fun e w' => e = .returned (.string ⟨(Lib.join ((ss.take n).map (·.data.toList)) [44, 32]).toArray⟩) ∧ Below W.heap.size W w' := by
  have hlen : (ss.take n).length = n := by rw [List.length_take]; omega
  have h1 := join_len_le (ss.take n)
  have h2 := sz_take_le ss n
  have h := Shelf.strings_Join b off c (ss.take n) ⟨#[44, 32]⟩ w (fun j x hx => by
      have hj : j < (ss.take n).length := (List.getElem?_eq_some_iff.1 hx).1
      rw [hw.cell (p := ⟨b, off + j, none⟩) hb, hc.out j (by omega)]
      rw [List.getElem?_take, if_pos (by omega)] at hx
      rw [List.getD_eq_getElem?_getD, hx]
      rfl) (Nat.lt_of_lt_of_le hb hw.size) (by omega) (by omega) (by
      show (Lib.join ((ss.take n).map (·.data.toList)) [44, 32]).length ≤ _
      omega)
  rw [hlen] at h
  exact h.mono fun e w' ⟨he, hb'⟩ => ⟨he, hw.trans (hb'.mono hw.size)⟩

theorem size_list (l : List UInt8) : (⟨l.toArray⟩ : ByteArray).size = l.length := by
  show l.toArray.size = l.length
  exact List.size_toArray

/-- The same, the answer by a name. -/
theorem join_named {W : World} (b off c : Nat) (ss : List ByteArray) (n : Nat) (hn : n ≤ ss.length) (hc : Hid (∀ i, i < ss.length → W.cell? ⟨b, off + i, none⟩ = some (.string (ss.getD i ByteArray.empty)))) (hb : b < W.heap.size) (hcap : ss.length ≤ c) (hl : ss.length ≤ 65536) (hz : sz ss ≤ 1048576)
    (w : World) (hw : Below W.heap.size W w) :
    Calls Try.prog 24 #[.slice (some ⟨b, off, none⟩) n c, .string ⟨#[44, 32]⟩] w fun e w' => ∃ J : ByteArray, e = .returned (.string J) ∧ Hid (J.data.toList = Lib.join ((ss.take n).map (·.data.toList)) [44, 32]) ∧ J.size ≤ 2000000 ∧ Below W.heap.size W w' := by
  refine (join_row b off c ss n hn hc hb hcap hl hz w hw).mono ?_
  rintro e w' ⟨rfl, hb'⟩
  have h1 := join_len_le (ss.take n)
  have h2 := sz_take_le ss n
  have h3 : (ss.take n).length ≤ ss.length := by rw [List.length_take]; omega
  exact ⟨_, rfl, rfl, by rw [size_list]; omega, hb'⟩

theorem add_run (P : Program) (a b : ByteArray) (ha : a.size ≤ 4000000) (hb : b.size ≤ 4000000) : ∀ w, (Op.stringOp .add a b).run P w = .ok (.string (a ++ b)) w := fun w => run_string_add_sum w a b (by omega)
theorem size_add (a b : ByteArray) : (a ++ b).size = a.size + b.size := ByteArray.size_append
theorem data_add (a b : ByteArray) : (a ++ b).data.toList = a.data.toList ++ b.data.toList := by simp

theorem ret_str {a b : ByteArray} (h : a = b) : Ending.returned (.string a) = .returned (.string b) := by rw [h]

theorem say_two (ss : List ByteArray) (m : Nat) (hm : ss.length = m + 1) (h1 : 1 ≤ m) (J s : ByteArray) (hJ : J.data.toList = Lib.join ((ss.take m).map (·.data.toList)) [44, 32]) (hs : ss.getD m ByteArray.empty = s) : J ++ ⟨#[32, 97, 110, 100, 32]⟩ ++ s = ⟨(say ss).toArray⟩ := by
  apply bytes_inj
  rw [data_add, data_add, hJ]
  unfold say
  rw [if_neg (by omega), if_neg (by omega), hm, Nat.add_sub_cancel, hs]

theorem mkS {W w : World} {a : Addr} {v : Value} (hv : W.cell? a = some v) (ha : a.block < W.heap.size) (h : Below W.heap.size W w) : Below W.heap.size W w ∧ w.cell? a = some v := ⟨h, (h.cell ha).trans hv⟩

set_option maxHeartbeats 2000000 in
theorem sayList_two (b off cap m : Nat) (ss : List ByteArray) (w : World) (hm : Hid (ss.length = m + 1)) (hb : b < w.heap.size) (hc : Hid (∀ i, i < ss.length → w.cell? ⟨b, off + i, none⟩ = some (.string (ss.getD i ByteArray.empty)))) (h2 : 1 ≤ m) (hcap : m + 1 ≤ cap) (hl : m + 1 ≤ 65536) (hz : sz ss ≤ 1048576) (hcm : cap ≤ 9223372036854775807) :
    Calls Try.prog 23 #[.slice (some ⟨b, off, none⟩) (m + 1) cap] w fun e w' => e = .returned (.string ⟨(say ss).toArray⟩) ∧ Below w.heap.size w w' := by
  have t0 : ((m : Int) + 1 == 0) = false := beq_eq_false_iff_ne.2 (by omega)
  have t1 : ((m : Int) + 1 == 1) = false := beq_eq_false_iff_ne.2 (by omega)
  have t2 : (0 : Int) ≤ (m : Int) := by omega
  have t3 : (m : Int) ≤ (cap : Int) := by omega
  have t4 : (m : Int) < (m : Int) + 1 := by omega
  have t5 : IntKind.i64.wrap (m : Int) = (m : Int) := by rw [IntKind.wrap_i64]; omega
  have hlast := hc.out m (by rw [hm.out]; omega)
  have hsm := sz_mem ss m (by rw [hm.out]; omega)
  have hs' : ∃ s, ss.getD m ByteArray.empty = s := ⟨_, rfl⟩
  obtain ⟨s, hs⟩ := hs'
  rw [hs] at hlast hsm
  have Hs : Hid (_) := hs
  have hss : s.size ≤ 1048576 := by omega
  clear hs hsm
  go_enter Try.func23, Try.ntmps23
  go_wp2
  go_region_held3 (fun w' => Below w.heap.size w w' ∧ w'.cell? ⟨b, off + m, none⟩ = some (.string s)) ((exact mkS hlast hb (by first | assumption | exact (Below.refl _ _).drew))) (first | (go_at_call 24; refine (join_named b off cap ss m (by rw [hm.out]; omega) hc hb (by rw [hm.out]; omega) (by rw [hm.out]; omega) hz _ (Below.refl _ _).drew).mono ?_; rintro e w1 ⟨J, rfl, hJ, hJs, hb1⟩; have a1 := add_run Try.prog J ⟨#[32, 97, 110, 100, 32]⟩ (by omega) (by decide); have a2 := add_run Try.prog (J ++ ⟨#[32, 97, 110, 100, 32]⟩) s (by rw [size_add]; show J.size + 5 ≤ _; omega) (by omega)))
  go_wp2
  go_ret
  exact ⟨ret_str (say_two ss m hm.out h2 _ _ (Hid.out ‹_›) Hs.out), ‹_›⟩

set_option maxHeartbeats 400000 in
theorem sayList_zero (ao : Option Addr) (cap : Nat) (w : World) :
    Calls Try.prog 23 #[.slice ao 0 cap] w fun e w' => e = .returned (.string ⟨(say []).toArray⟩) ∧ Below w.heap.size w w' := by
  go_enter Try.func23, Try.ntmps23
  go_wp2
  go_ret
  exact ⟨rfl, Below.refl _ _⟩

set_option maxHeartbeats 400000 in
theorem sayList_one (b off cap : Nat) (s : ByteArray) (w : World) (hc : w.cell? ⟨b, off, none⟩ = some (.string s)) :
    Calls Try.prog 23 #[.slice (some ⟨b, off, none⟩) 1 cap] w fun e w' => e = .returned (.string ⟨(say [s]).toArray⟩) ∧ Below w.heap.size w w' := by
  have hs : Hid (s = ⟨(say [s]).toArray⟩) := by cases s; rfl
  go_enter Try.func23, Try.ntmps23
  go_wp2
  go_ret
  exact ⟨ret_str hs.out, Below.refl _ _⟩

theorem sayList_any (ao : Option Addr) (cap : Nat) (ss : List ByteArray) (w : World) (hS : Strs w ao ss) (hcap : ss.length ≤ cap) (hl : ss.length ≤ 65536) (hz : sz ss ≤ 1048576) (hcm : cap ≤ 9223372036854775807) :
    Calls Try.prog 23 #[.slice ao ss.length cap] w fun e w' => e = .returned (.string ⟨(say ss).toArray⟩) ∧ Below w.heap.size w w' := by
  rcases hS with rfl | ⟨b, off, rfl, hb, hc⟩
  · exact sayList_zero ao cap w
  · match ss, hcap, hl, hz, hc with
    | [], _, _, _, _ => exact sayList_zero _ cap w
    | [s], _, _, _, hc => exact sayList_one b off cap s w (hc 0 (by simp))
    | s :: t :: r, hcap, hl, hz, hc => exact sayList_two b off cap (r.length + 1) (s :: t :: r) w (show (s :: t :: r).length = r.length + 1 + 1 by simp) hb hc (by omega) (by simpa using hcap) (by simpa using hl) hz hcm
end Go.Proofs.Qxb6605890a.V
