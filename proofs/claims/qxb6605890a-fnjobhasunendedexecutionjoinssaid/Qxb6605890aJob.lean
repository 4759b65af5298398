/-
  Executions and jobs in memory, and the contract of 'jobOf' at an empty list.
-/
import Derived.Test.Qxb6605890aClone
import Derived.Test.Qxb6605890aEnded
import Derived.Deep.AppendLies
namespace Go.Proofs.Qxb6605890a.V
open Go.ChangeShapes Go.WideShapes Go.ChangeAt Go.RowKit

theorem hide {p : Prop} (h : p) : Hid p := h
/-- An execution in state s: its cells. -/
def exec (s : ByteArray) : List Value := [.string ⟨#[]⟩, .string ⟨#[]⟩, .string ⟨#[]⟩, .string ⟨#[]⟩, .string s, .string ⟨#[]⟩, .pointer none, .int .i64 0, .int .i64 0, .int .i64 0, .int .i64 0, .string ⟨#[]⟩]
def execs (ss : List ByteArray) : List Value := ss.flatMap exec
theorem execs_length (ss : List ByteArray) : (execs ss).length = ss.length * 12 := by
  unfold execs
  induction ss with
  | nil => rfl
  | cons s r ih => simp only [List.flatMap_cons, List.length_append, ih, List.length_cons]; simp [exec]; omega
theorem execs_add (a b : List ByteArray) : execs (a ++ b) = execs a ++ execs b := by unfold execs; rw [List.flatMap_append]
theorem execs_snoc (ss : List ByteArray) (k : Nat) (h : k < ss.length) : execs (ss.take (k + 1)) = execs (ss.take k) ++ exec (ss.getD k ByteArray.empty) := by
  rw [take_snoc ss k h, execs_add]; simp [execs]

/-- A job with the executions v and nothing else. -/
def job (v : Value) : Value := .agg #[.string ⟨#[]⟩, .string ⟨#[]⟩, .string ⟨#[]⟩, .string ⟨#[]⟩, .int .i64 0, .int .i64 0, .map none, .map none, .slice none 0 0, .slice none 0 0, .string ⟨#[]⟩, .string ⟨#[]⟩, .int .i64 0, .int .i64 0, .int .i64 0, v]

theorem Try.info46 : (Try.prog.info? 46).map (fun i => (i.zero, i.size, i.bytes)) = some (some (.agg #[.string ⟨#[]⟩, .string ⟨#[]⟩, .string ⟨#[]⟩, .string ⟨#[]⟩, .string ⟨#[]⟩, .string ⟨#[]⟩, .pointer none, .int .i64 0, .int .i64 0, .int .i64 0, .int .i64 0, .string ⟨#[]⟩]), 12, 152) := by kernel_rfl

/-- The executions of the strings ss lie at the head of block g. -/
def Execs (w : World) (g : Nat) (ss : List ByteArray) : Prop := g < w.heap.size ∧ ∀ j u, (execs ss)[j]? = some u → w.cell? ⟨g, j, none⟩ = some u

def IsJob (ss : List ByteArray) (e : Ending) (w : World) : Prop := ∃ g cap, e = .returned (job (.slice (some ⟨g, 0, none⟩) ss.length cap)) ∧ Execs w g ss

theorem exec_one (s : ByteArray) : ∀ u ∈ exec s, u.oneCell' = true := by
  intro u hu
  simp only [exec, List.mem_cons, List.not_mem_nil, or_false] at hu
  rcases hu with rfl | rfl | rfl | rfl | rfl | rfl | rfl | rfl | rfl | rfl | rfl | rfl <;> rfl

/-- Writes to block b alone. -/
structure Oth (b : Nat) (w w' : World) : Prop where
  os : w'.os = w.os
  tape : w'.tape = w.tape
  output : w'.output = w.output
  size : w'.heap.size = w.heap.size
  block : ∀ k, k ≠ b → w'.heap[k]? = w.heap[k]?
theorem Oth.refl (b : Nat) (w : World) : Oth b w w := ⟨rfl, rfl, rfl, rfl, fun _ _ => rfl⟩
theorem Oth.set {b : Nat} {a w : World} (h : Oth b a w) (o : Nat) (u : Value) : Oth b a (w.setCell ⟨b, o, none⟩ u) :=
  ⟨h.os, h.tape, h.output, by simpa using h.size, fun k hk => (Below.heap_setCell w ⟨b, o, none⟩ u k hk).trans (h.block k hk)⟩
theorem Oth.below {b : Nat} {a w : World} (h : Oth b a w) : Below b a w := ⟨h.os, h.tape, h.output, by rw [h.size]; exact Nat.le_refl _, fun k hk => h.block k (by omega)⟩
theorem Oth.cell {b : Nat} {a w : World} (h : Oth b a w) {p : Addr} (hp : p.block ≠ b) : w.cell? p = a.cell? p := World.cell?_of_block (w := a) (h.block p.block hp)

/-- The block of a job with nothing in it. -/
def jobZero : Obj := .cells #[.string ⟨#[]⟩, .string ⟨#[]⟩, .string ⟨#[]⟩, .string ⟨#[]⟩, .int .i64 0, .int .i64 0, .map none, .map none, .slice none 0 0, .slice none 0 0, .string ⟨#[]⟩, .string ⟨#[]⟩, .int .i64 0, .int .i64 0, .int .i64 0, .slice none 0 0] 36

theorem job_tail {w w1 W' : World} {ss : List ByteArray} {cap : Nat} (hB : Below (w.heap.size + 1) (w.alloc jobZero) w1)
    (hown : w1.ownsRow (w.heap.size + 1) 46 12 (.slice (some ⟨w.heap.size + 1, 0, none⟩) ss.length cap) ss.length (execs ss)) (ho : Oth w.heap.size w1 W') :
    Execs W' (w.heap.size + 1) ss ∧ Below w.heap.size w W' := by
  refine ⟨⟨by rw [ho.size]; exact (hown.lt _ rfl).2, fun j u hu => ?_⟩, ?_⟩
  · rw [ho.cell (p := ⟨w.heap.size + 1, j, none⟩) (by show w.heap.size + 1 ≠ w.heap.size; omega)]
    have hj : j < ss.length * 12 := by
      have := (List.getElem?_eq_some_iff.1 hu).1
      rwa [execs_length] at this
    rw [hown.cellAt j hj, hu]
  · exact (((Below.refl _ _).alloc (Nat.le_refl _) _).trans (hB.mono (by omega))).trans ho.below

theorem job_block {w w1 : World} (hB : Below (w.heap.size + 1) (w.alloc jobZero) w1) : w1.heap[w.heap.size]? = some (.cells #[.string ⟨#[]⟩, .string ⟨#[]⟩, .string ⟨#[]⟩, .string ⟨#[]⟩, .int .i64 0, .int .i64 0, .map none, .map none, .slice none 0 0, .slice none 0 0, .string ⟨#[]⟩, .string ⟨#[]⟩, .int .i64 0, .int .i64 0, .int .i64 0, .slice none 0 0] 36 (0, 0)) := by
  rw [hB.block w.heap.size (by omega)]
  exact heap_alloc_new w _

set_option maxHeartbeats 600000 in
theorem jobOf_nil (ao : Option Addr) (cap : Nat) (w : World) :
    Calls Try.prog 10 #[.slice ao 0 cap] w fun e w' => IsJob [] e w' ∧ Below w.heap.size w w' := by
  obtain ⟨i0, hi, hz0, hz1, hz2⟩ := info_parts Try.info46
  go_enter Try.func10, Try.ntmps10
  go_wp2_with (at_make; refine wpList_make_own _ rfl _ _ 34 rfl (w.heap.size + 1) 46 i0 _ 12 Try.underlying34 hi hz0 hz1 _ _ _ 0 rfl rfl rfl (by omega) (by unfold maxLen; omega) (by simp) ?_; intro w1 hown hgrow)
  have hB : Below (w.heap.size + 1) (w.alloc jobZero) w1 := (Below.refl _ _).grown hgrow (by simp) (fun k hk => by cases hk)
  have hown2 : w1.ownsRow (w.heap.size + 1) 46 12 (.slice (some ⟨w.heap.size + 1, 0, none⟩) 0 0) 0 [] := by simpa using hown
  have hblk := job_block hB
  have hcl : ∀ j, w1.cell? ⟨w.heap.size, j, none⟩ = (#[.string ⟨#[]⟩, .string ⟨#[]⟩, .string ⟨#[]⟩, .string ⟨#[]⟩, .int .i64 0, .int .i64 0, .map none, .map none, .slice none 0 0, .slice none 0 0, .string ⟨#[]⟩, .string ⟨#[]⟩, .int .i64 0, .int .i64 0, .int .i64 0, .slice none 0 0] : Array Value)[j]? := fun j => cell_of_row w1 _ j _ _ _ hblk
  have hfr : ∀ j, w1.frozen? ⟨w.heap.size, j, none⟩ = false := fun j => frozen_of_row w1 _ j _ _ hblk
  have HT := hide (fun W' ho => job_tail (ss := []) (W' := W') hB hown2 ho)
  clear hB hown hgrow hblk hown2
  refine wp_loop_rounds 1 ?_
  rw [rounds_succ]
  go_wp2
  refine bodyPost_ret (v := job (.slice (some ⟨w.heap.size + 1, 0, none⟩) 0 0)) (by simp [results, Try.results10, go_sem, hcl, job]) rfl ?_
  refine ⟨⟨w.heap.size + 1, 0, rfl, (HT.out _ ?_).1⟩, (HT.out _ ?_).2⟩
  all_goals
    iterate 16 (refine Oth.set ?_ _ _)
    exact Oth.refl _ _
end Go.Proofs.Qxb6605890a.V
