/-
  No cell of these rows narrows 'for every input' (looked for: loops, veiled, ifaces, maps, wideKeys, modest, calm, conditions, laid).
  DERIVED. THE GIVEN ROWS OF THIS SEAT. 2 by the template 'for every input the law returns true; each argument reads behind the call as it read before'; 0 by the template 'total and deterministic' (their statements: Qxb6630079aTotals.lean).
  GIVEN WITH THE SEED: the statements are not yours to turn. If you find one false, say at which input.
  Laid BY PROGRAM, IN A SANDBOX (cutbox-rows.mjs): the forced cells as the released guide's own fill.sh prints them over the translation d14ee80f2872e138… (all of the seat's roots in one cut). By AI agents, Wed Nov 11 2026. No macro, syntax, notation, axiom, sorry.
-/
import Derived.Test.Qxb6630079aChecked
import GoSem.Claim
import GoSem.ClaimJoined
import GoSem.ClaimMapViews
import Derived.JoinedTies
import Derived.KernelRfl
namespace Go.Proofs.Qxb6630079a
/- THE CELL 'sum', in the pinned program and in every row, IS THE sha256 OF THE DUMP (.gsa) THAT Qxb6630079aProg.lean LOADS. Nothing in Lean hashes anything: it is a label: what it is worth is what the hold of that sum in a sandbox is worth. -/
noncomputable def Try.pinned : Pinned := { name := "qxb6630079a", sum := "d14ee80f2872e13802494a76d64332110473b527cf8040b75415623c4d3d8857", checked := Try.checked }
namespace Rows
def none {H : Type} : Left H := { results := [], args := [] }

/-- 'zzlaws_internal_lease_b1.FnTakeWorkersMatchesLastStateModel': WHATEVER THE INPUT: true; the input reads as it did. -/
def fnTakeWorkersMatchesLastStateModelSpec : ChangeSpec := { name := "fnTakeWorkersMatchesLastStateModel", fn := fun _ => fun
  | [d] => { results := [.lit (.bool true)], args := [d] }
  | _ => none }
def fnTakeWorkersMatchesLastStateModelRow : OpenClaim := { program := "qxb6630079a", sum := "d14ee80f2872e13802494a76d64332110473b527cf8040b75415623c4d3d8857", func := "example.com/vacancyd/vacancyd/zzlaws_internal_lease_b1.FnTakeWorkersMatchesLastStateModel", spec := "fnTakeWorkersMatchesLastStateModel", apart := false }
def FnTakeWorkersMatchesLastStateModelSaid : Prop := fnTakeWorkersMatchesLastStateModelRow.holds Try.pinned (OpenSpec.ofChange fnTakeWorkersMatchesLastStateModelSpec)

/-- ITS FALSE NEIGHBOUR: 'it returns false'. Refute it at one input. -/
def fnTakeWorkersMatchesLastStateModelWrong : ChangeSpec := { name := "fnTakeWorkersMatchesLastStateModel", fn := fun _ => fun
  | [d] => { results := [.lit (.bool false)], args := [d] }
  | _ => none }
def FnTakeWorkersMatchesLastStateModelWrongFalsely : Prop := fnTakeWorkersMatchesLastStateModelRow.holds Try.pinned (OpenSpec.ofChange fnTakeWorkersMatchesLastStateModelWrong)

/-- 'zzlaws_internal_lease_b1.FnTakeWorkersRoundTripAndCount': WHATEVER THE INPUT: true; the input reads as it did. -/
def fnTakeWorkersRoundTripAndCountSpec : ChangeSpec := { name := "fnTakeWorkersRoundTripAndCount", fn := fun _ => fun
  | [d] => { results := [.lit (.bool true)], args := [d] }
  | _ => none }
def fnTakeWorkersRoundTripAndCountRow : OpenClaim := { program := "qxb6630079a", sum := "d14ee80f2872e13802494a76d64332110473b527cf8040b75415623c4d3d8857", func := "example.com/vacancyd/vacancyd/zzlaws_internal_lease_b1.FnTakeWorkersRoundTripAndCount", spec := "fnTakeWorkersRoundTripAndCount", apart := false }
def FnTakeWorkersRoundTripAndCountSaid : Prop := fnTakeWorkersRoundTripAndCountRow.holds Try.pinned (OpenSpec.ofChange fnTakeWorkersRoundTripAndCountSpec)

/-- ITS FALSE NEIGHBOUR: 'it returns false'. Refute it at one input. -/
def fnTakeWorkersRoundTripAndCountWrong : ChangeSpec := { name := "fnTakeWorkersRoundTripAndCount", fn := fun _ => fun
  | [d] => { results := [.lit (.bool false)], args := [d] }
  | _ => none }
def FnTakeWorkersRoundTripAndCountWrongFalsely : Prop := fnTakeWorkersRoundTripAndCountRow.holds Try.pinned (OpenSpec.ofChange fnTakeWorkersRoundTripAndCountWrong)

end Rows
end Go.Proofs.Qxb6630079a
