/-
  No cell of these rows narrows 'for every input' (looked for: loops, veiled, ifaces, maps, wideKeys, modest, calm, conditions, laid).
  DERIVED. THE GIVEN ROWS OF THIS SEAT. 4 by the template 'for every input the law returns true; each argument reads behind the call as it read before'; 0 by the template 'total and deterministic' (their statements: Qxb6605890aTotals.lean).
  GIVEN WITH THE SEED: the statements are not yours to turn. If you find one false, say at which input.
  Laid BY PROGRAM, IN A SANDBOX (cutbox-rows.mjs): the forced cells as the released guide's own fill.sh prints them over the translation 07029a68740c0d47… (all of the seat's roots in one cut). By AI agents, Wed Nov 11 2026. No macro, syntax, notation, axiom, sorry.
-/
import Derived.Test.Qxb6605890aChecked
import GoSem.Claim
import GoSem.ClaimJoined
import GoSem.ClaimMapViews
import Derived.JoinedTies
import Derived.KernelRfl
namespace Go.Proofs.Qxb6605890a
/- THE CELL 'sum', in the pinned program and in every row, IS THE sha256 OF THE DUMP (.gsa) THAT Qxb6605890aProg.lean LOADS. Nothing in Lean hashes anything: it is a label: what it is worth is what the hold of that sum in a sandbox is worth. -/
noncomputable def Try.pinned : Pinned := { name := "qxb6605890a", sum := "07029a68740c0d47796e7f737facef51403982f5ec1a9680b4f4b081e4ed32b3", checked := Try.checked }
namespace Rows
def none {H : Type} : Left H := { results := [], args := [] }

/-- 'zzlaws_model_b1.FnJobHasUnendedExecutionCountsEnded': WHATEVER THE INPUT: true; the input reads as it did. -/
def fnJobHasUnendedExecutionCountsEndedSpec : ChangeSpec := { name := "fnJobHasUnendedExecutionCountsEnded", fn := fun _ => fun
  | [d] => { results := [.lit (.bool true)], args := [d] }
  | _ => none }
def fnJobHasUnendedExecutionCountsEndedRow : OpenClaim := { program := "qxb6605890a", sum := "07029a68740c0d47796e7f737facef51403982f5ec1a9680b4f4b081e4ed32b3", func := "example.com/moorline/moorline/zzlaws_model_b1.FnJobHasUnendedExecutionCountsEnded", spec := "fnJobHasUnendedExecutionCountsEnded", apart := false }
def FnJobHasUnendedExecutionCountsEndedSaid : Prop := fnJobHasUnendedExecutionCountsEndedRow.holds Try.pinned (OpenSpec.ofChange fnJobHasUnendedExecutionCountsEndedSpec)

/-- ITS FALSE NEIGHBOUR: 'it returns false'. Refute it at one input. -/
def fnJobHasUnendedExecutionCountsEndedWrong : ChangeSpec := { name := "fnJobHasUnendedExecutionCountsEnded", fn := fun _ => fun
  | [d] => { results := [.lit (.bool false)], args := [d] }
  | _ => none }
def FnJobHasUnendedExecutionCountsEndedWrongFalsely : Prop := fnJobHasUnendedExecutionCountsEndedRow.holds Try.pinned (OpenSpec.ofChange fnJobHasUnendedExecutionCountsEndedWrong)

/-- 'zzlaws_model_b1.FnJobHasUnendedExecutionJoins': WHATEVER THE INPUT: true; the input reads as it did. -/
def fnJobHasUnendedExecutionJoinsSpec : ChangeSpec := { name := "fnJobHasUnendedExecutionJoins", fn := fun _ => fun
  | [d1, d2] => { results := [.lit (.bool true)], args := [d1, d2] }
  | _ => none }
def fnJobHasUnendedExecutionJoinsRow : OpenClaim := { program := "qxb6605890a", sum := "07029a68740c0d47796e7f737facef51403982f5ec1a9680b4f4b081e4ed32b3", func := "example.com/moorline/moorline/zzlaws_model_b1.FnJobHasUnendedExecutionJoins", spec := "fnJobHasUnendedExecutionJoins", apart := false }
def FnJobHasUnendedExecutionJoinsSaid : Prop := fnJobHasUnendedExecutionJoinsRow.holds Try.pinned (OpenSpec.ofChange fnJobHasUnendedExecutionJoinsSpec)

/-- ITS FALSE NEIGHBOUR: 'it returns false'. Refute it at one input. -/
def fnJobHasUnendedExecutionJoinsWrong : ChangeSpec := { name := "fnJobHasUnendedExecutionJoins", fn := fun _ => fun
  | [d1, d2] => { results := [.lit (.bool false)], args := [d1, d2] }
  | _ => none }
def FnJobHasUnendedExecutionJoinsWrongFalsely : Prop := fnJobHasUnendedExecutionJoinsRow.holds Try.pinned (OpenSpec.ofChange fnJobHasUnendedExecutionJoinsWrong)

/-- 'zzlaws_model_b1.FnParamKeysSaysTheList': WHATEVER THE INPUT: true; the input reads as it did. -/
def fnParamKeysSaysTheListSpec : ChangeSpec := { name := "fnParamKeysSaysTheList", fn := fun _ => fun
  | [d] => { results := [.lit (.bool true)], args := [d] }
  | _ => none }
def fnParamKeysSaysTheListRow : OpenClaim := { program := "qxb6605890a", sum := "07029a68740c0d47796e7f737facef51403982f5ec1a9680b4f4b081e4ed32b3", func := "example.com/moorline/moorline/zzlaws_model_b1.FnParamKeysSaysTheList", spec := "fnParamKeysSaysTheList", inPlace := ["internal/abi.NoEscape", "internal/bytealg.MakeNoZero"], apart := false }
def FnParamKeysSaysTheListSaid : Prop := fnParamKeysSaysTheListRow.holds Try.pinned (OpenSpec.ofChange fnParamKeysSaysTheListSpec)

/-- ITS FALSE NEIGHBOUR: 'it returns false'. Refute it at one input. -/
def fnParamKeysSaysTheListWrong : ChangeSpec := { name := "fnParamKeysSaysTheList", fn := fun _ => fun
  | [d] => { results := [.lit (.bool false)], args := [d] }
  | _ => none }
def FnParamKeysSaysTheListWrongFalsely : Prop := fnParamKeysSaysTheListRow.holds Try.pinned (OpenSpec.ofChange fnParamKeysSaysTheListWrong)

/-- 'zzlaws_model_b1.FnParamKeysLengthAndEnds': WHATEVER THE INPUT: true; the input reads as it did. -/
def fnParamKeysLengthAndEndsSpec : ChangeSpec := { name := "fnParamKeysLengthAndEnds", fn := fun _ => fun
  | [d] => { results := [.lit (.bool true)], args := [d] }
  | _ => none }
def fnParamKeysLengthAndEndsRow : OpenClaim := { program := "qxb6605890a", sum := "07029a68740c0d47796e7f737facef51403982f5ec1a9680b4f4b081e4ed32b3", func := "example.com/moorline/moorline/zzlaws_model_b1.FnParamKeysLengthAndEnds", spec := "fnParamKeysLengthAndEnds", inPlace := ["internal/abi.NoEscape", "internal/bytealg.MakeNoZero"], apart := false }
def FnParamKeysLengthAndEndsSaid : Prop := fnParamKeysLengthAndEndsRow.holds Try.pinned (OpenSpec.ofChange fnParamKeysLengthAndEndsSpec)

/-- ITS FALSE NEIGHBOUR: 'it returns false'. Refute it at one input. -/
def fnParamKeysLengthAndEndsWrong : ChangeSpec := { name := "fnParamKeysLengthAndEnds", fn := fun _ => fun
  | [d] => { results := [.lit (.bool false)], args := [d] }
  | _ => none }
def FnParamKeysLengthAndEndsWrongFalsely : Prop := fnParamKeysLengthAndEndsRow.holds Try.pinned (OpenSpec.ofChange fnParamKeysLengthAndEndsWrong)

end Rows
end Go.Proofs.Qxb6605890a
