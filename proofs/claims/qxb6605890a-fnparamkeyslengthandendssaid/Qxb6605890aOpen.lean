/-
  A slice of strings among the arguments, opened as 'Strs'.
-/
import Derived.Test.Qxb6605890aView
import Derived.SliceStrings
import Derived.ChangeOld
import Derived.Below
namespace Go.Proofs.Qxb6605890a.V
open Go.ChangeShapes Go.WideShapes Go.ChangeAt Go.RowKit

theorem own : ownKnob Try.prog.godebug = none := by kernel_rfl
theorem laidOut : laidOutB Try.prog = true := by kernel_rfl

/-- What the walk is told of a slice of strings that came in. -/
structure Arg (w : World) (ao : Option Addr) (len : Nat) (ss : List ByteArray) : Prop where
  len : ss.length = len
  strs : Strs w ao ss
  max : ss.length ≤ maxLen
  each : ∀ s ∈ ss, s.size ≤ maxLen
  nil : ao = none → ss = []

theorem strs_at {w : World} {a : Addr} {ss : List ByteArray} (h : ∀ i, i < ss.length → w.cell? (a.add i) = some (.string (ss.getD i ByteArray.empty))) : Strs w (some a) ss := by
  by_cases hp : 0 < ss.length
  · obtain ⟨b, off, spot⟩ := a
    have hspot : spot = none := by simpa [Addr.add] using World.cell?_spot (h 0 hp)
    subst hspot
    refine .inr ⟨b, off, rfl, block_lt_of_cell (h 0 hp), fun j hj => ?_⟩
    rw [← Go.WideShapes.add_plain]; exact h j hj
  · exact .inl (List.eq_nil_of_length_eq_zero (by omega))

theorem arg_open {H : Type} {enc : TypeId × Value → H} {W : World} {a0 : Option Addr} {len0 cap0 : Nat} {d : DataW H} {p : List MemPlace}
    (h : DataW.Trod enc Try.prog W 0 (fun _ => true) true 22 (.slice a0 len0 cap0) d p) : ∃ ss, Arg W a0 len0 ss := by
  obtain ⟨fuel, hf⟩ := h
  rcases open_strings Try.underlying22 Try.underlying9 (by kernel_rfl) hf with ⟨hcs, _⟩ | ⟨x, l, c, zs, hcs, _, hl, hm, hz, _, hcell, hwz⟩
  · simp [Value.cells] at hcs
    obtain ⟨rfl, rfl, rfl⟩ := hcs
    exact ⟨[], rfl, .inl rfl, Nat.zero_le _, fun s hs => (by cases hs), fun _ => rfl⟩
  · simp [Value.cells] at hcs
    obtain ⟨rfl, rfl, rfl⟩ := hcs
    simp only [if_true] at hz
    have hlen : (zs.take len0).length = len0 := by rw [List.length_take]; omega
    refine ⟨zs.take len0, hlen, strs_at fun i hi => ?_, by omega, fun s hs => hwz s (List.mem_of_mem_take hs), fun h => by cases h⟩
    rw [hcell i (by omega)]
    rw [List.getD_eq_getElem?_getD, List.getD_eq_getElem?_getD, List.getElem?_take, if_pos (by omega)]
end Go.Proofs.Qxb6605890a.V
