/-
  No cell of these rows narrows 'for every input' (looked for: loops, veiled, ifaces, maps, wideKeys, modest, calm, conditions, laid).
  DERIVED. THE GIVEN ROWS OF THIS SEAT. 2 by the template 'for every input the law returns true; each argument reads behind the call as it read before'; 0 by the template 'total and deterministic' (their statements: Qxb6628956aTotals.lean).
  GIVEN WITH THE SEED: the statements are not yours to turn. If you find one false, say at which input.
  Laid BY PROGRAM, IN A SANDBOX (cutbox-rows.mjs): the forced cells as the released guide's own fill.sh prints them over the translation 14d4b520fb594c71… (all of the seat's roots in one cut). By AI agents, Wed Nov 11 2026. No macro, syntax, notation, axiom, sorry.
-/
import Derived.Test.Qxb6628956aChecked
import GoSem.Claim
import GoSem.ClaimJoined
import GoSem.ClaimMapViews
import Derived.JoinedTies
import Derived.KernelRfl
namespace Go.Proofs.Qxb6628956a
/- THE CELL 'sum', in the pinned program and in every row, IS THE sha256 OF THE DUMP (.gsa) THAT Qxb6628956aProg.lean LOADS. Nothing in Lean hashes anything: it is a label: what it is worth is what the hold of that sum in a sandbox is worth. -/
noncomputable def Try.pinned : Pinned := { name := "qxb6628956a", sum := "14d4b520fb594c7152e3c1dcb210663059dff384eae9d1b34f0454187b434052", checked := Try.checked }
namespace Rows
def none {H : Type} : Left H := { results := [], args := [] }

/-- 'zzlaws_internal_datetime_b1.FnTimeDigitsLeastExact': WHATEVER THE INPUT: true; the input reads as it did. -/
def fnTimeDigitsLeastExactSpec : ChangeSpec := { name := "fnTimeDigitsLeastExact", fn := fun _ => fun
  | [d1, d2, d3] => { results := [.lit (.bool true)], args := [d1, d2, d3] }
  | _ => none }
def fnTimeDigitsLeastExactRow : OpenClaim := { program := "qxb6628956a", sum := "14d4b520fb594c7152e3c1dcb210663059dff384eae9d1b34f0454187b434052", func := "example.com/palimpsest/palimpsest/zzlaws_internal_datetime_b1.FnTimeDigitsLeastExact", spec := "fnTimeDigitsLeastExact", apart := false }
def FnTimeDigitsLeastExactSaid : Prop := fnTimeDigitsLeastExactRow.holds Try.pinned (OpenSpec.ofChange fnTimeDigitsLeastExactSpec)

/-- ITS FALSE NEIGHBOUR: 'it returns false'. Refute it at one input. -/
def fnTimeDigitsLeastExactWrong : ChangeSpec := { name := "fnTimeDigitsLeastExact", fn := fun _ => fun
  | [d1, d2, d3] => { results := [.lit (.bool false)], args := [d1, d2, d3] }
  | _ => none }
def FnTimeDigitsLeastExactWrongFalsely : Prop := fnTimeDigitsLeastExactRow.holds Try.pinned (OpenSpec.ofChange fnTimeDigitsLeastExactWrong)

/-- 'zzlaws_internal_datetime_b1.FnTimeDigitsMirrorFactors': WHATEVER THE INPUT: true; the input reads as it did. -/
def fnTimeDigitsMirrorFactorsSpec : ChangeSpec := { name := "fnTimeDigitsMirrorFactors", fn := fun _ => fun
  | [d1, d2] => { results := [.lit (.bool true)], args := [d1, d2] }
  | _ => none }
def fnTimeDigitsMirrorFactorsRow : OpenClaim := { program := "qxb6628956a", sum := "14d4b520fb594c7152e3c1dcb210663059dff384eae9d1b34f0454187b434052", func := "example.com/palimpsest/palimpsest/zzlaws_internal_datetime_b1.FnTimeDigitsMirrorFactors", spec := "fnTimeDigitsMirrorFactors", apart := false }
def FnTimeDigitsMirrorFactorsSaid : Prop := fnTimeDigitsMirrorFactorsRow.holds Try.pinned (OpenSpec.ofChange fnTimeDigitsMirrorFactorsSpec)

/-- ITS FALSE NEIGHBOUR: 'it returns false'. Refute it at one input. -/
def fnTimeDigitsMirrorFactorsWrong : ChangeSpec := { name := "fnTimeDigitsMirrorFactors", fn := fun _ => fun
  | [d1, d2] => { results := [.lit (.bool false)], args := [d1, d2] }
  | _ => none }
def FnTimeDigitsMirrorFactorsWrongFalsely : Prop := fnTimeDigitsMirrorFactorsRow.holds Try.pinned (OpenSpec.ofChange fnTimeDigitsMirrorFactorsWrong)

end Rows
end Go.Proofs.Qxb6628956a
