/-
  strings.Join at this dump: the library's contract 'Any.strings_Join', laid by lay-shelf.mjs and lay-plain.mjs (the text that they wrote for this program, cut down to Join).
-/
import Derived.Shelf.Strings.OnBuilder
import Derived.Test.Qxb6605890aProg
namespace Go.Proofs.Qxb6605890a.Shelf
open Go.Shelf
def lays156_ren : Go.Shelf.Ren := ⟨fun | 156 => 24 | 165 => 25 | 166 => 26 | 169 => 27 | 240 => 28 | 241 => 29 | 276 => 30 | 277 => 31 | n => n, fun | 31 => 22 | 9 => 9 | 3 => 3 | 4 => 4 | 0 => 0 | 20 => 20 | 72 => 58 | 76 => 62 | 70 => 55 | 37 => 56 | 75 => 61 | 127 => 65 | 164 => 66 | 5 => 5 | 80 => 64 | n => n, fun | n => n⟩
theorem lays156 : Go.Proofs.Lays.n156 Try.prog lays156_ren := {
  mixed := by kernel_rfl
  f156 := Try.func24.trans (congrArg some (by kernel_rfl))
  f165 := Try.func25.trans (congrArg some (by kernel_rfl))
  f166 := Try.func26.trans (congrArg some (by kernel_rfl))
  f169 := Try.func27.trans (congrArg some (by kernel_rfl))
  f240 := Try.func28.trans (congrArg some (by kernel_rfl))
  f241 := Try.func29.trans (congrArg some (by kernel_rfl))
  f276 := Try.func30.trans (congrArg some (by kernel_rfl))
  f277 := Try.func31.trans (congrArg some (by kernel_rfl))
  t0 := Try.underlying0
  a0 := Try.isAgg0
  z0 := Try.sizeOf0
  v0 := Try.zeroValue0
  t3 := Try.underlying3
  a3 := Try.isAgg3
  z3 := Try.sizeOf3
  v3 := Try.zeroValue3
  t4 := Try.underlying4
  a4 := Try.isAgg4
  z4 := Try.sizeOf4
  v4 := Try.zeroValue4
  t9 := Try.underlying9
  a9 := Try.isAgg9
  z9 := Try.sizeOf9
  v9 := Try.zeroValue9
  t20 := Try.underlying20
  a20 := Try.isAgg20
  z20 := Try.sizeOf20
  v20 := Try.zeroValue20
  t31 := Try.underlying22
  a31 := Try.isAgg22
  z31 := Try.sizeOf22
  v31 := Try.zeroValue22
  t37 := Try.underlying56
  a37 := Try.isAgg56
  z37 := Try.sizeOf56
  v37 := Try.zeroValue56
  t70 := Try.underlying55
  a70 := Try.isAgg55
  z70 := Try.sizeOf55
  v70 := Try.zeroValue55
  t72 := Try.underlying58
  a72 := Try.isAgg58
  z72 := Try.sizeOf58
  v72 := Try.zeroValue58
  t75 := Try.underlying61
  a75 := Try.isAgg61
  z75 := Try.sizeOf61
  v75 := Try.zeroValue61
  t76 := Try.underlying62
  a76 := Try.isAgg62
  z76 := Try.sizeOf62
  v76 := Try.zeroValue62
  t127 := Try.underlying65
  a127 := Try.isAgg65
  z127 := Try.sizeOf65
  v127 := Try.zeroValue65
  t164 := Try.underlying66
  a164 := Try.isAgg66
  z164 := Try.sizeOf66
  v164 := Try.zeroValue66 }
theorem builder_Extra_156 : Builder.Extra Try.prog lays156_ren := {
  sizeBuilder := by kernel_rfl
  liesBuilder := by kernel_rfl
  t5 := Try.underlying5
  a5 := Try.isAgg5
  z5 := Try.sizeOf5
  v5 := Try.zeroValue5
  infoByte := by kernel_rfl
  cellsByte := by kernel_rfl
  sizeByte := by kernel_rfl
  neB5 := by decide }
open Go.RowKit in
/-- strings.Join: "Join concatenates the elements of its first argument to create a single string. The separator string sep is placed between elements in the resulting string.": HOWEVER MANY ELEMENTS. Below the heap's end the world is as it was. (LAID: no walk: one application.) -/
theorem strings_Join (bk o c : Nat) (xs : List ByteArray) (sep : ByteArray) (w : World) (hcells : ∀ (j : Nat) x, xs[j]? = some x → w.cell? ⟨bk, o + j, none⟩ = some (.string x)) (hbk : bk < w.heap.size) (hN : xs.length ≤ 140737488355328) (hcap : xs.length ≤ c) (hlen : (Lib.join (xs.map (·.data.toList)) sep.data.toList).length ≤ 140737488355328) :
    Calls Try.prog 24 #[.slice (some ⟨bk, o, none⟩) xs.length c, .string sep] w fun e w' => e = .returned (.string ⟨(Lib.join (xs.map (·.data.toList)) sep.data.toList).toArray⟩) ∧ Below w.heap.size w w' := Any.strings_Join lays156 builder_Extra_156 bk o c xs sep w hcells hbk hN hcap hlen
end Go.Proofs.Qxb6605890a.Shelf
