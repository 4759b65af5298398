/-
  No cell of these rows narrows 'for every input' (looked for: loops, veiled, ifaces, maps, wideKeys, modest, calm, conditions, laid).
  DERIVED. THE GIVEN ROWS OF THIS SEAT. 3 by the template 'for every input the law returns true; each argument reads behind the call as it read before'; 0 by the template 'total and deterministic' (their statements: Qxb6605761aTotals.lean).
  GIVEN WITH THE SEED: the statements are not yours to turn. If you find one false, say at which input.
  Laid BY PROGRAM, IN A SANDBOX (cutbox-rows.mjs): the forced cells as the released guide's own fill.sh prints them over the translation ed28880ce7ac548b… (all of the seat's roots in one cut). By AI agents, Wed Nov 11 2026. No macro, syntax, notation, axiom, sorry.
-/
import Derived.Test.Qxb6605761aChecked
import GoSem.Claim
import GoSem.ClaimJoined
import GoSem.ClaimMapViews
import Derived.JoinedTies
import Derived.KernelRfl
namespace Go.Proofs.Qxb6605761a
/- THE CELL 'sum', in the pinned program and in every row, IS THE sha256 OF THE DUMP (.gsa) THAT Qxb6605761aProg.lean LOADS. Nothing in Lean hashes anything: it is a label: what it is worth is what the hold of that sum in a sandbox is worth. -/
noncomputable def Try.pinned : Pinned := { name := "qxb6605761a", sum := "ed28880ce7ac548b9cb234c382f6c76bd226e32c05d2116769a19c76eb732eaf", checked := Try.checked }
namespace Rows
def none {H : Type} : Left H := { results := [], args := [] }

/-- 'zzlaws_pkg_terms_b1.FnPrintableExactlyOutsideExcluded': WHATEVER THE INPUT: true; the input reads as it did. -/
def fnPrintableExactlyOutsideExcludedSpec : ChangeSpec := { name := "fnPrintableExactlyOutsideExcluded", fn := fun _ => fun
  | [d] => { results := [.lit (.bool true)], args := [d] }
  | _ => none }
def fnPrintableExactlyOutsideExcludedRow : OpenClaim := { program := "qxb6605761a", sum := "ed28880ce7ac548b9cb234c382f6c76bd226e32c05d2116769a19c76eb732eaf", func := "example.com/zhaiyan/zhaiyan/zzlaws_pkg_terms_b1.FnPrintableExactlyOutsideExcluded", spec := "fnPrintableExactlyOutsideExcluded", apart := false }
def FnPrintableExactlyOutsideExcludedSaid : Prop := fnPrintableExactlyOutsideExcludedRow.holds Try.pinned (OpenSpec.ofChange fnPrintableExactlyOutsideExcludedSpec)

/-- ITS FALSE NEIGHBOUR: 'it returns false'. Refute it at one input. -/
def fnPrintableExactlyOutsideExcludedWrong : ChangeSpec := { name := "fnPrintableExactlyOutsideExcluded", fn := fun _ => fun
  | [d] => { results := [.lit (.bool false)], args := [d] }
  | _ => none }
def FnPrintableExactlyOutsideExcludedWrongFalsely : Prop := fnPrintableExactlyOutsideExcludedRow.holds Try.pinned (OpenSpec.ofChange fnPrintableExactlyOutsideExcludedWrong)

/-- 'zzlaws_pkg_terms_b1.FnPrintableCountMatchesSpecIntervals': WHATEVER THE INPUT: true; the input reads as it did. -/
def fnPrintableCountMatchesSpecIntervalsSpec : ChangeSpec := { name := "fnPrintableCountMatchesSpecIntervals", fn := fun _ => fun
  | [d1, d2] => { results := [.lit (.bool true)], args := [d1, d2] }
  | _ => none }
def fnPrintableCountMatchesSpecIntervalsRow : OpenClaim := { program := "qxb6605761a", sum := "ed28880ce7ac548b9cb234c382f6c76bd226e32c05d2116769a19c76eb732eaf", func := "example.com/zhaiyan/zhaiyan/zzlaws_pkg_terms_b1.FnPrintableCountMatchesSpecIntervals", spec := "fnPrintableCountMatchesSpecIntervals", apart := false }
def FnPrintableCountMatchesSpecIntervalsSaid : Prop := fnPrintableCountMatchesSpecIntervalsRow.holds Try.pinned (OpenSpec.ofChange fnPrintableCountMatchesSpecIntervalsSpec)

/-- ITS FALSE NEIGHBOUR: 'it returns false'. Refute it at one input. -/
def fnPrintableCountMatchesSpecIntervalsWrong : ChangeSpec := { name := "fnPrintableCountMatchesSpecIntervals", fn := fun _ => fun
  | [d1, d2] => { results := [.lit (.bool false)], args := [d1, d2] }
  | _ => none }
def FnPrintableCountMatchesSpecIntervalsWrongFalsely : Prop := fnPrintableCountMatchesSpecIntervalsRow.holds Try.pinned (OpenSpec.ofChange fnPrintableCountMatchesSpecIntervalsWrong)

/-- 'zzlaws_pkg_terms_b1.FnKeyNameNestsAssociatively': WHATEVER THE INPUT: true; the input reads as it did. -/
def fnKeyNameNestsAssociativelySpec : ChangeSpec := { name := "fnKeyNameNestsAssociatively", fn := fun _ => fun
  | [d1, d2, d3] => { results := [.lit (.bool true)], args := [d1, d2, d3] }
  | _ => none }
def fnKeyNameNestsAssociativelyRow : OpenClaim := { program := "qxb6605761a", sum := "ed28880ce7ac548b9cb234c382f6c76bd226e32c05d2116769a19c76eb732eaf", func := "example.com/zhaiyan/zhaiyan/zzlaws_pkg_terms_b1.FnKeyNameNestsAssociatively", spec := "fnKeyNameNestsAssociatively", apart := false }
def FnKeyNameNestsAssociativelySaid : Prop := fnKeyNameNestsAssociativelyRow.holds Try.pinned (OpenSpec.ofChange fnKeyNameNestsAssociativelySpec)

/-- ITS FALSE NEIGHBOUR: 'it returns false'. Refute it at one input. -/
def fnKeyNameNestsAssociativelyWrong : ChangeSpec := { name := "fnKeyNameNestsAssociatively", fn := fun _ => fun
  | [d1, d2, d3] => { results := [.lit (.bool false)], args := [d1, d2, d3] }
  | _ => none }
def FnKeyNameNestsAssociativelyWrongFalsely : Prop := fnKeyNameNestsAssociativelyRow.holds Try.pinned (OpenSpec.ofChange fnKeyNameNestsAssociativelyWrong)

end Rows
end Go.Proofs.Qxb6605761a
