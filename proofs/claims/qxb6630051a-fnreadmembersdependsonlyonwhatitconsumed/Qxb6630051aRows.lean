/-
  No cell of these rows narrows 'for every input' (looked for: loops, veiled, ifaces, maps, wideKeys, modest, calm, conditions, laid).
  DERIVED. THE GIVEN ROWS OF THIS SEAT. 2 by the template 'for every input the law returns true; each argument reads behind the call as it read before'; 0 by the template 'total and deterministic' (their statements: Qxb6630051aTotals.lean).
  GIVEN WITH THE SEED: the statements are not yours to turn. If you find one false, say at which input.
  Laid BY PROGRAM, IN A SANDBOX (cutbox-rows.mjs): the forced cells as the released guide's own fill.sh prints them over the translation 435e4d9080bc7b3e… (all of the seat's roots in one cut). By AI agents, Wed Nov 11 2026. No macro, syntax, notation, axiom, sorry.
-/
import Derived.Test.Qxb6630051aChecked
import GoSem.Claim
import GoSem.ClaimJoined
import GoSem.ClaimMapViews
import Derived.JoinedTies
import Derived.KernelRfl
namespace Go.Proofs.Qxb6630051a
/- THE CELL 'sum', in the pinned program and in every row, IS THE sha256 OF THE DUMP (.gsa) THAT Qxb6630051aProg.lean LOADS. Nothing in Lean hashes anything: it is a label: what it is worth is what the hold of that sum in a sandbox is worth. -/
noncomputable def Try.pinned : Pinned := { name := "qxb6630051a", sum := "435e4d9080bc7b3eb6b3d28f76a9879e5493e9e0fa3d3311db0b8b7ebd4251eb", checked := Try.checked }
namespace Rows
def none {H : Type} : Left H := { results := [], args := [] }

/-- 'zzlaws_raft_b1.FnReadMembersMatchesGrammar': WHATEVER THE INPUT: true; the input reads as it did. -/
def fnReadMembersMatchesGrammarSpec : ChangeSpec := { name := "fnReadMembersMatchesGrammar", fn := fun _ => fun
  | [d] => { results := [.lit (.bool true)], args := [d] }
  | _ => none }
def fnReadMembersMatchesGrammarRow : OpenClaim := { program := "qxb6630051a", sum := "435e4d9080bc7b3eb6b3d28f76a9879e5493e9e0fa3d3311db0b8b7ebd4251eb", func := "example.com/quorumkeep/quorumkeep/zzlaws_raft_b1.FnReadMembersMatchesGrammar", spec := "fnReadMembersMatchesGrammar", apart := false }
def FnReadMembersMatchesGrammarSaid : Prop := fnReadMembersMatchesGrammarRow.holds Try.pinned (OpenSpec.ofChange fnReadMembersMatchesGrammarSpec)

/-- ITS FALSE NEIGHBOUR: 'it returns false'. Refute it at one input. -/
def fnReadMembersMatchesGrammarWrong : ChangeSpec := { name := "fnReadMembersMatchesGrammar", fn := fun _ => fun
  | [d] => { results := [.lit (.bool false)], args := [d] }
  | _ => none }
def FnReadMembersMatchesGrammarWrongFalsely : Prop := fnReadMembersMatchesGrammarRow.holds Try.pinned (OpenSpec.ofChange fnReadMembersMatchesGrammarWrong)

/-- 'zzlaws_raft_b1.FnReadMembersDependsOnlyOnWhatItConsumed': WHATEVER THE INPUT: true; the input reads as it did. -/
def fnReadMembersDependsOnlyOnWhatItConsumedSpec : ChangeSpec := { name := "fnReadMembersDependsOnlyOnWhatItConsumed", fn := fun _ => fun
  | [d1, d2] => { results := [.lit (.bool true)], args := [d1, d2] }
  | _ => none }
def fnReadMembersDependsOnlyOnWhatItConsumedRow : OpenClaim := { program := "qxb6630051a", sum := "435e4d9080bc7b3eb6b3d28f76a9879e5493e9e0fa3d3311db0b8b7ebd4251eb", func := "example.com/quorumkeep/quorumkeep/zzlaws_raft_b1.FnReadMembersDependsOnlyOnWhatItConsumed", spec := "fnReadMembersDependsOnlyOnWhatItConsumed", apart := false }
def FnReadMembersDependsOnlyOnWhatItConsumedSaid : Prop := fnReadMembersDependsOnlyOnWhatItConsumedRow.holds Try.pinned (OpenSpec.ofChange fnReadMembersDependsOnlyOnWhatItConsumedSpec)

/-- ITS FALSE NEIGHBOUR: 'it returns false'. Refute it at one input. -/
def fnReadMembersDependsOnlyOnWhatItConsumedWrong : ChangeSpec := { name := "fnReadMembersDependsOnlyOnWhatItConsumed", fn := fun _ => fun
  | [d1, d2] => { results := [.lit (.bool false)], args := [d1, d2] }
  | _ => none }
def FnReadMembersDependsOnlyOnWhatItConsumedWrongFalsely : Prop := fnReadMembersDependsOnlyOnWhatItConsumedRow.holds Try.pinned (OpenSpec.ofChange fnReadMembersDependsOnlyOnWhatItConsumedWrong)

end Rows
end Go.Proofs.Qxb6630051a
