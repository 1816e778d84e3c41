/-
  No cell of these rows narrows 'for every input' (looked for: loops, veiled, ifaces, maps, wideKeys, modest, calm, conditions, laid).
  DERIVED. THE GIVEN ROWS OF THIS SEAT. 2 by the template 'for every input the law returns true; each argument reads behind the call as it read before'; 0 by the template 'total and deterministic' (their statements: Qxb6630003aTotals.lean).
  GIVEN WITH THE SEED: the statements are not yours to turn. If you find one false, say at which input.
  Laid BY PROGRAM, IN A SANDBOX (cutbox-rows.mjs): the forced cells as the released guide's own fill.sh prints them over the translation 0d708d4491ccaff1… (all of the seat's roots in one cut). By AI agents, Wed Nov 11 2026. No macro, syntax, notation, axiom, sorry.
-/
import Derived.Test.Qxb6630003aChecked
import GoSem.Claim
import GoSem.ClaimJoined
import GoSem.ClaimMapViews
import Derived.JoinedTies
import Derived.KernelRfl
namespace Go.Proofs.Qxb6630003a
/- THE CELL 'sum', in the pinned program and in every row, IS THE sha256 OF THE DUMP (.gsa) THAT Qxb6630003aProg.lean LOADS. Nothing in Lean hashes anything: it is a label: what it is worth is what the hold of that sum in a sandbox is worth. -/
noncomputable def Try.pinned : Pinned := { name := "qxb6630003a", sum := "0d708d4491ccaff191062ab5833c327f44cdb8ad159b153a244e8aa26904543a", checked := Try.checked }
namespace Rows
def none {H : Type} : Left H := { results := [], args := [] }

/-- 'zzlaws_internal_schedule_b1.FnItemNameIsCanonicalEncoding': WHATEVER THE INPUT: true; the input reads as it did. -/
def fnItemNameIsCanonicalEncodingSpec : ChangeSpec := { name := "fnItemNameIsCanonicalEncoding", fn := fun _ => fun
  | [d] => { results := [.lit (.bool true)], args := [d] }
  | _ => none }
def fnItemNameIsCanonicalEncodingRow : OpenClaim := { program := "qxb6630003a", sum := "0d708d4491ccaff191062ab5833c327f44cdb8ad159b153a244e8aa26904543a", func := "example.com/tidemark/tidemark/zzlaws_internal_schedule_b1.FnItemNameIsCanonicalEncoding", spec := "fnItemNameIsCanonicalEncoding", unfollowed := true, recurses := true, apart := false }
def FnItemNameIsCanonicalEncodingSaid : Prop := fnItemNameIsCanonicalEncodingRow.holds Try.pinned (OpenSpec.ofChange fnItemNameIsCanonicalEncodingSpec)

/-- ITS FALSE NEIGHBOUR: 'it returns false'. Refute it at one input. -/
def fnItemNameIsCanonicalEncodingWrong : ChangeSpec := { name := "fnItemNameIsCanonicalEncoding", fn := fun _ => fun
  | [d] => { results := [.lit (.bool false)], args := [d] }
  | _ => none }
def FnItemNameIsCanonicalEncodingWrongFalsely : Prop := fnItemNameIsCanonicalEncodingRow.holds Try.pinned (OpenSpec.ofChange fnItemNameIsCanonicalEncodingWrong)

/-- 'zzlaws_internal_schedule_b1.FnItemNameSplitsAtEveryJoin': WHATEVER THE INPUT: true; the input reads as it did. -/
def fnItemNameSplitsAtEveryJoinSpec : ChangeSpec := { name := "fnItemNameSplitsAtEveryJoin", fn := fun _ => fun
  | [d1, d2] => { results := [.lit (.bool true)], args := [d1, d2] }
  | _ => none }
def fnItemNameSplitsAtEveryJoinRow : OpenClaim := { program := "qxb6630003a", sum := "0d708d4491ccaff191062ab5833c327f44cdb8ad159b153a244e8aa26904543a", func := "example.com/tidemark/tidemark/zzlaws_internal_schedule_b1.FnItemNameSplitsAtEveryJoin", spec := "fnItemNameSplitsAtEveryJoin", unfollowed := true, recurses := true, apart := false }
def FnItemNameSplitsAtEveryJoinSaid : Prop := fnItemNameSplitsAtEveryJoinRow.holds Try.pinned (OpenSpec.ofChange fnItemNameSplitsAtEveryJoinSpec)

/-- ITS FALSE NEIGHBOUR: 'it returns false'. Refute it at one input. -/
def fnItemNameSplitsAtEveryJoinWrong : ChangeSpec := { name := "fnItemNameSplitsAtEveryJoin", fn := fun _ => fun
  | [d1, d2] => { results := [.lit (.bool false)], args := [d1, d2] }
  | _ => none }
def FnItemNameSplitsAtEveryJoinWrongFalsely : Prop := fnItemNameSplitsAtEveryJoinRow.holds Try.pinned (OpenSpec.ofChange fnItemNameSplitsAtEveryJoinWrong)

end Rows
end Go.Proofs.Qxb6630003a
