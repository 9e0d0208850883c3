/-
  No cell of these rows narrows 'for every input' (looked for: loops, veiled, ifaces, maps, wideKeys, modest, calm, conditions, laid).
  DERIVED. THE GIVEN ROWS OF THIS SEAT. 4 by the template 'for every input the law returns true; each argument reads behind the call as it read before'; 0 by the template 'total and deterministic' (their statements: Qxb6619245aTotals.lean).
  GIVEN WITH THE SEED: the statements are not yours to turn. If you find one false, say at which input.
  Laid BY PROGRAM, IN A SANDBOX (cutbox-rows.mjs): the forced cells as the released guide's own fill.sh prints them over the translation 0f2b144fb4baa275… (all of the seat's roots in one cut). By AI agents, Wed Nov 11 2026. No macro, syntax, notation, axiom, sorry.
-/
import Derived.Test.Qxb6619245aChecked
import GoSem.Claim
import GoSem.ClaimJoined
import GoSem.ClaimMapViews
import Derived.JoinedTies
import Derived.KernelRfl
namespace Go.Proofs.Qxb6619245a
/- THE CELL 'sum', in the pinned program and in every row, IS THE sha256 OF THE DUMP (.gsa) THAT Qxb6619245aProg.lean LOADS. Nothing in Lean hashes anything: it is a label: what it is worth is what the hold of that sum in a sandbox is worth. -/
noncomputable def Try.pinned : Pinned := { name := "qxb6619245a", sum := "0f2b144fb4baa2759b9fd69219d16feef5374642fd6ef0d585da52eb7bbe6cb4", checked := Try.checked }
namespace Rows
def none {H : Type} : Left H := { results := [], args := [] }

/-- 'zzlaws_internal_output_b1.FnHex4MatchesItsDigits': WHATEVER THE INPUT: true; the input reads as it did. -/
def fnHex4MatchesItsDigitsSpec : ChangeSpec := { name := "fnHex4MatchesItsDigits", fn := fun _ => fun
  | [d] => { results := [.lit (.bool true)], args := [d] }
  | _ => none }
def fnHex4MatchesItsDigitsRow : OpenClaim := { program := "qxb6619245a", sum := "0f2b144fb4baa2759b9fd69219d16feef5374642fd6ef0d585da52eb7bbe6cb4", func := "example.com/coxswain/coxswain/zzlaws_internal_output_b1.FnHex4MatchesItsDigits", spec := "fnHex4MatchesItsDigits", apart := false }
def FnHex4MatchesItsDigitsSaid : Prop := fnHex4MatchesItsDigitsRow.holds Try.pinned (OpenSpec.ofChange fnHex4MatchesItsDigitsSpec)

/-- ITS FALSE NEIGHBOUR: 'it returns false'. Refute it at one input. -/
def fnHex4MatchesItsDigitsWrong : ChangeSpec := { name := "fnHex4MatchesItsDigits", fn := fun _ => fun
  | [d] => { results := [.lit (.bool false)], args := [d] }
  | _ => none }
def FnHex4MatchesItsDigitsWrongFalsely : Prop := fnHex4MatchesItsDigitsRow.holds Try.pinned (OpenSpec.ofChange fnHex4MatchesItsDigitsWrong)

/-- 'zzlaws_internal_output_b1.FnHex4OrderIsTextOrder': WHATEVER THE INPUT: true; the input reads as it did. -/
def fnHex4OrderIsTextOrderSpec : ChangeSpec := { name := "fnHex4OrderIsTextOrder", fn := fun _ => fun
  | [d1, d2] => { results := [.lit (.bool true)], args := [d1, d2] }
  | _ => none }
def fnHex4OrderIsTextOrderRow : OpenClaim := { program := "qxb6619245a", sum := "0f2b144fb4baa2759b9fd69219d16feef5374642fd6ef0d585da52eb7bbe6cb4", func := "example.com/coxswain/coxswain/zzlaws_internal_output_b1.FnHex4OrderIsTextOrder", spec := "fnHex4OrderIsTextOrder", apart := false }
def FnHex4OrderIsTextOrderSaid : Prop := fnHex4OrderIsTextOrderRow.holds Try.pinned (OpenSpec.ofChange fnHex4OrderIsTextOrderSpec)

/-- ITS FALSE NEIGHBOUR: 'it returns false'. Refute it at one input. -/
def fnHex4OrderIsTextOrderWrong : ChangeSpec := { name := "fnHex4OrderIsTextOrder", fn := fun _ => fun
  | [d1, d2] => { results := [.lit (.bool false)], args := [d1, d2] }
  | _ => none }
def FnHex4OrderIsTextOrderWrongFalsely : Prop := fnHex4OrderIsTextOrderRow.holds Try.pinned (OpenSpec.ofChange fnHex4OrderIsTextOrderWrong)

/-- 'zzlaws_internal_output_b1.FnBlankPadsCutsAndLetters': WHATEVER THE INPUT: true; the input reads as it did. -/
def fnBlankPadsCutsAndLettersSpec : ChangeSpec := { name := "fnBlankPadsCutsAndLetters", fn := fun _ => fun
  | [d1, d2] => { results := [.lit (.bool true)], args := [d1, d2] }
  | _ => none }
def fnBlankPadsCutsAndLettersRow : OpenClaim := { program := "qxb6619245a", sum := "0f2b144fb4baa2759b9fd69219d16feef5374642fd6ef0d585da52eb7bbe6cb4", func := "example.com/coxswain/coxswain/zzlaws_internal_output_b1.FnBlankPadsCutsAndLetters", spec := "fnBlankPadsCutsAndLetters", apart := false }
def FnBlankPadsCutsAndLettersSaid : Prop := fnBlankPadsCutsAndLettersRow.holds Try.pinned (OpenSpec.ofChange fnBlankPadsCutsAndLettersSpec)

/-- ITS FALSE NEIGHBOUR: 'it returns false'. Refute it at one input. -/
def fnBlankPadsCutsAndLettersWrong : ChangeSpec := { name := "fnBlankPadsCutsAndLetters", fn := fun _ => fun
  | [d1, d2] => { results := [.lit (.bool false)], args := [d1, d2] }
  | _ => none }
def FnBlankPadsCutsAndLettersWrongFalsely : Prop := fnBlankPadsCutsAndLettersRow.holds Try.pinned (OpenSpec.ofChange fnBlankPadsCutsAndLettersWrong)

/-- 'zzlaws_internal_output_b1.FnBlankIsByteWiseOfFourBytes': WHATEVER THE INPUT: true; the input reads as it did. -/
def fnBlankIsByteWiseOfFourBytesSpec : ChangeSpec := { name := "fnBlankIsByteWiseOfFourBytes", fn := fun _ => fun
  | [d] => { results := [.lit (.bool true)], args := [d] }
  | _ => none }
def fnBlankIsByteWiseOfFourBytesRow : OpenClaim := { program := "qxb6619245a", sum := "0f2b144fb4baa2759b9fd69219d16feef5374642fd6ef0d585da52eb7bbe6cb4", func := "example.com/coxswain/coxswain/zzlaws_internal_output_b1.FnBlankIsByteWiseOfFourBytes", spec := "fnBlankIsByteWiseOfFourBytes", apart := false }
def FnBlankIsByteWiseOfFourBytesSaid : Prop := fnBlankIsByteWiseOfFourBytesRow.holds Try.pinned (OpenSpec.ofChange fnBlankIsByteWiseOfFourBytesSpec)

/-- ITS FALSE NEIGHBOUR: 'it returns false'. Refute it at one input. -/
def fnBlankIsByteWiseOfFourBytesWrong : ChangeSpec := { name := "fnBlankIsByteWiseOfFourBytes", fn := fun _ => fun
  | [d] => { results := [.lit (.bool false)], args := [d] }
  | _ => none }
def FnBlankIsByteWiseOfFourBytesWrongFalsely : Prop := fnBlankIsByteWiseOfFourBytesRow.holds Try.pinned (OpenSpec.ofChange fnBlankIsByteWiseOfFourBytesWrong)

end Rows
end Go.Proofs.Qxb6619245a
