/-
  No cell of these rows narrows 'for every input' (looked for: loops, veiled, ifaces, maps, wideKeys, modest, calm, conditions, laid).
  DERIVED. THE GIVEN ROWS OF THIS SEAT. 2 by the template 'for every input the law returns true; each argument reads behind the call as it read before'; 0 by the template 'total and deterministic' (their statements: Qxb6632653aTotals.lean).
  GIVEN WITH THE SEED: the statements are not yours to turn. If you find one false, say at which input.
  Laid BY PROGRAM, IN A SANDBOX (cutbox-rows.mjs): the forced cells as the released guide's own fill.sh prints them over the translation 466136d6c0640cbc… (all of the seat's roots in one cut). By AI agents, Wed Nov 11 2026. No macro, syntax, notation, axiom, sorry.
-/
import Derived.Test.Qxb6632653aChecked
import GoSem.Claim
import GoSem.ClaimJoined
import GoSem.ClaimMapViews
import Derived.JoinedTies
import Derived.KernelRfl
namespace Go.Proofs.Qxb6632653a
/- THE CELL 'sum', in the pinned program and in every row, IS THE sha256 OF THE DUMP (.gsa) THAT Qxb6632653aProg.lean LOADS. Nothing in Lean hashes anything: it is a label: what it is worth is what the hold of that sum in a sandbox is worth. -/
noncomputable def Try.pinned : Pinned := { name := "qxb6632653a", sum := "466136d6c0640cbcbbccba8e525b31c29bfdf24fff55d1ee4530925c18434925", checked := Try.checked }
namespace Rows
def none {H : Type} : Left H := { results := [], args := [] }

/-- 'zzlaws_match_b1.FnBelowIsShortestExtensionEndingInSeparatorRun': WHATEVER THE INPUT: true; the input reads as it did. -/
def fnBelowIsShortestExtensionEndingInSeparatorRunSpec : ChangeSpec := { name := "fnBelowIsShortestExtensionEndingInSeparatorRun", fn := fun _ => fun
  | [d] => { results := [.lit (.bool true)], args := [d] }
  | _ => none }
def fnBelowIsShortestExtensionEndingInSeparatorRunRow : OpenClaim := { program := "qxb6632653a", sum := "466136d6c0640cbcbbccba8e525b31c29bfdf24fff55d1ee4530925c18434925", func := "example.com/rules-for-resources/rules-for-resources/zzlaws_match_b1.FnBelowIsShortestExtensionEndingInSeparatorRun", spec := "fnBelowIsShortestExtensionEndingInSeparatorRun", apart := false }
def FnBelowIsShortestExtensionEndingInSeparatorRunSaid : Prop := fnBelowIsShortestExtensionEndingInSeparatorRunRow.holds Try.pinned (OpenSpec.ofChange fnBelowIsShortestExtensionEndingInSeparatorRunSpec)

/-- ITS FALSE NEIGHBOUR: 'it returns false'. Refute it at one input. -/
def fnBelowIsShortestExtensionEndingInSeparatorRunWrong : ChangeSpec := { name := "fnBelowIsShortestExtensionEndingInSeparatorRun", fn := fun _ => fun
  | [d] => { results := [.lit (.bool false)], args := [d] }
  | _ => none }
def FnBelowIsShortestExtensionEndingInSeparatorRunWrongFalsely : Prop := fnBelowIsShortestExtensionEndingInSeparatorRunRow.holds Try.pinned (OpenSpec.ofChange fnBelowIsShortestExtensionEndingInSeparatorRunWrong)

/-- 'zzlaws_match_b1.FnBelowOfJoinIsPrefixThenBelowOfTail': WHATEVER THE INPUT: true; the input reads as it did. -/
def fnBelowOfJoinIsPrefixThenBelowOfTailSpec : ChangeSpec := { name := "fnBelowOfJoinIsPrefixThenBelowOfTail", fn := fun _ => fun
  | [d1, d2] => { results := [.lit (.bool true)], args := [d1, d2] }
  | _ => none }
def fnBelowOfJoinIsPrefixThenBelowOfTailRow : OpenClaim := { program := "qxb6632653a", sum := "466136d6c0640cbcbbccba8e525b31c29bfdf24fff55d1ee4530925c18434925", func := "example.com/rules-for-resources/rules-for-resources/zzlaws_match_b1.FnBelowOfJoinIsPrefixThenBelowOfTail", spec := "fnBelowOfJoinIsPrefixThenBelowOfTail", apart := false }
def FnBelowOfJoinIsPrefixThenBelowOfTailSaid : Prop := fnBelowOfJoinIsPrefixThenBelowOfTailRow.holds Try.pinned (OpenSpec.ofChange fnBelowOfJoinIsPrefixThenBelowOfTailSpec)

/-- ITS FALSE NEIGHBOUR: 'it returns false'. Refute it at one input. -/
def fnBelowOfJoinIsPrefixThenBelowOfTailWrong : ChangeSpec := { name := "fnBelowOfJoinIsPrefixThenBelowOfTail", fn := fun _ => fun
  | [d1, d2] => { results := [.lit (.bool false)], args := [d1, d2] }
  | _ => none }
def FnBelowOfJoinIsPrefixThenBelowOfTailWrongFalsely : Prop := fnBelowOfJoinIsPrefixThenBelowOfTailRow.holds Try.pinned (OpenSpec.ofChange fnBelowOfJoinIsPrefixThenBelowOfTailWrong)

end Rows
end Go.Proofs.Qxb6632653a
