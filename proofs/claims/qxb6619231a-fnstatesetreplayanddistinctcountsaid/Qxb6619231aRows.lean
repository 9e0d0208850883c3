/-
  No cell of these rows narrows 'for every input' (looked for: loops, veiled, ifaces, maps, wideKeys, modest, calm, conditions, laid).
  DERIVED. THE GIVEN ROWS OF THIS SEAT. 3 by the template 'for every input the law returns true; each argument reads behind the call as it read before'; 0 by the template 'total and deterministic' (their statements: Qxb6619231aTotals.lean).
  GIVEN WITH THE SEED: the statements are not yours to turn. If you find one false, say at which input.
  Laid BY PROGRAM, IN A SANDBOX (cutbox-rows.mjs): the forced cells as the released guide's own fill.sh prints them over the translation 227efd1f74567277… (all of the seat's roots in one cut). By AI agents, Wed Nov 11 2026. No macro, syntax, notation, axiom, sorry.
-/
import Derived.Test.Qxb6619231aChecked
import GoSem.Claim
import GoSem.ClaimJoined
import GoSem.ClaimMapViews
import Derived.JoinedTies
import Derived.KernelRfl
namespace Go.Proofs.Qxb6619231a
/- THE CELL 'sum', in the pinned program and in every row, IS THE sha256 OF THE DUMP (.gsa) THAT Qxb6619231aProg.lean LOADS. Nothing in Lean hashes anything: it is a label: what it is worth is what the hold of that sum in a sandbox is worth. -/
noncomputable def Try.pinned : Pinned := { name := "qxb6619231a", sum := "227efd1f7456727719cf426854926821a878a523f69e18d787b3ca4cfe136cda", checked := Try.checked }
namespace Rows
def none {H : Type} : Left H := { results := [], args := [] }

/-- 'zzlaws_internal_schema_b1.FnIsIdentifierJoinAtAnyCut': WHATEVER THE INPUT: true; the input reads as it did. -/
def fnIsIdentifierJoinAtAnyCutSpec : ChangeSpec := { name := "fnIsIdentifierJoinAtAnyCut", fn := fun _ => fun
  | [d1, d2] => { results := [.lit (.bool true)], args := [d1, d2] }
  | _ => none }
def fnIsIdentifierJoinAtAnyCutRow : OpenClaim := { program := "qxb6619231a", sum := "227efd1f7456727719cf426854926821a878a523f69e18d787b3ca4cfe136cda", func := "example.com/yangway/yangway/zzlaws_internal_schema_b1.FnIsIdentifierJoinAtAnyCut", spec := "fnIsIdentifierJoinAtAnyCut", apart := false }
def FnIsIdentifierJoinAtAnyCutSaid : Prop := fnIsIdentifierJoinAtAnyCutRow.holds Try.pinned (OpenSpec.ofChange fnIsIdentifierJoinAtAnyCutSpec)

/-- ITS FALSE NEIGHBOUR: 'it returns false'. Refute it at one input. -/
def fnIsIdentifierJoinAtAnyCutWrong : ChangeSpec := { name := "fnIsIdentifierJoinAtAnyCut", fn := fun _ => fun
  | [d1, d2] => { results := [.lit (.bool false)], args := [d1, d2] }
  | _ => none }
def FnIsIdentifierJoinAtAnyCutWrongFalsely : Prop := fnIsIdentifierJoinAtAnyCutRow.holds Try.pinned (OpenSpec.ofChange fnIsIdentifierJoinAtAnyCutWrong)

/-- 'zzlaws_internal_schema_b1.FnStateSetAddAnswersFirstSighting': WHATEVER THE INPUT: true; the input reads as it did. -/
def fnStateSetAddAnswersFirstSightingSpec : ChangeSpec := { name := "fnStateSetAddAnswersFirstSighting", fn := fun _ => fun
  | [d] => { results := [.lit (.bool true)], args := [d] }
  | _ => none }
def fnStateSetAddAnswersFirstSightingRow : OpenClaim := { program := "qxb6619231a", sum := "227efd1f7456727719cf426854926821a878a523f69e18d787b3ca4cfe136cda", func := "example.com/yangway/yangway/zzlaws_internal_schema_b1.FnStateSetAddAnswersFirstSighting", spec := "fnStateSetAddAnswersFirstSighting", apart := false }
def FnStateSetAddAnswersFirstSightingSaid : Prop := fnStateSetAddAnswersFirstSightingRow.holds Try.pinned (OpenSpec.ofChange fnStateSetAddAnswersFirstSightingSpec)

/-- ITS FALSE NEIGHBOUR: 'it returns false'. Refute it at one input. -/
def fnStateSetAddAnswersFirstSightingWrong : ChangeSpec := { name := "fnStateSetAddAnswersFirstSighting", fn := fun _ => fun
  | [d] => { results := [.lit (.bool false)], args := [d] }
  | _ => none }
def FnStateSetAddAnswersFirstSightingWrongFalsely : Prop := fnStateSetAddAnswersFirstSightingRow.holds Try.pinned (OpenSpec.ofChange fnStateSetAddAnswersFirstSightingWrong)

/-- 'zzlaws_internal_schema_b1.FnStateSetReplayAndDistinctCount': WHATEVER THE INPUT: true; the input reads as it did. -/
def fnStateSetReplayAndDistinctCountSpec : ChangeSpec := { name := "fnStateSetReplayAndDistinctCount", fn := fun _ => fun
  | [d] => { results := [.lit (.bool true)], args := [d] }
  | _ => none }
def fnStateSetReplayAndDistinctCountRow : OpenClaim := { program := "qxb6619231a", sum := "227efd1f7456727719cf426854926821a878a523f69e18d787b3ca4cfe136cda", func := "example.com/yangway/yangway/zzlaws_internal_schema_b1.FnStateSetReplayAndDistinctCount", spec := "fnStateSetReplayAndDistinctCount", apart := false }
def FnStateSetReplayAndDistinctCountSaid : Prop := fnStateSetReplayAndDistinctCountRow.holds Try.pinned (OpenSpec.ofChange fnStateSetReplayAndDistinctCountSpec)

/-- ITS FALSE NEIGHBOUR: 'it returns false'. Refute it at one input. -/
def fnStateSetReplayAndDistinctCountWrong : ChangeSpec := { name := "fnStateSetReplayAndDistinctCount", fn := fun _ => fun
  | [d] => { results := [.lit (.bool false)], args := [d] }
  | _ => none }
def FnStateSetReplayAndDistinctCountWrongFalsely : Prop := fnStateSetReplayAndDistinctCountRow.holds Try.pinned (OpenSpec.ofChange fnStateSetReplayAndDistinctCountWrong)

end Rows
end Go.Proofs.Qxb6619231a
