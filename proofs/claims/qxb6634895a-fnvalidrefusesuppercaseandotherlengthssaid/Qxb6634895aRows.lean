/-
  No cell of these rows narrows 'for every input' (looked for: loops, veiled, ifaces, maps, wideKeys, modest, calm, conditions, laid).
  DERIVED. THE GIVEN ROWS OF THIS SEAT. 2 by the template 'for every input the law returns true; each argument reads behind the call as it read before'; 0 by the template 'total and deterministic' (their statements: Qxb6634895aTotals.lean).
  GIVEN WITH THE SEED: the statements are not yours to turn. If you find one false, say at which input.
  Laid BY PROGRAM, IN A SANDBOX (cutbox-rows.mjs): the forced cells as the released guide's own fill.sh prints them over the translation 191229e065b6c300… (all of the seat's roots in one cut). By AI agents, Wed Nov 11 2026. No macro, syntax, notation, axiom, sorry.
-/
import Derived.Test.Qxb6634895aChecked
import GoSem.Claim
import GoSem.ClaimJoined
import GoSem.ClaimMapViews
import Derived.JoinedTies
import Derived.KernelRfl
namespace Go.Proofs.Qxb6634895a
/- THE CELL 'sum', in the pinned program and in every row, IS THE sha256 OF THE DUMP (.gsa) THAT Qxb6634895aProg.lean LOADS. Nothing in Lean hashes anything: it is a label: what it is worth is what the hold of that sum in a sandbox is worth. -/
noncomputable def Try.pinned : Pinned := { name := "qxb6634895a", sum := "191229e065b6c30090b1d7cc0e3dbb7b147adcf3621084e6473ee0fa40ba1287", checked := Try.checked }
namespace Rows
def none {H : Type} : Left H := { results := [], args := [] }

/-- 'zzlaws_replid_b1.FnValidCutAnyPlace': WHATEVER THE INPUT: true; the input reads as it did. -/
def fnValidCutAnyPlaceSpec : ChangeSpec := { name := "fnValidCutAnyPlace", fn := fun _ => fun
  | [d1, d2] => { results := [.lit (.bool true)], args := [d1, d2] }
  | _ => none }
def fnValidCutAnyPlaceRow : OpenClaim := { program := "qxb6634895a", sum := "191229e065b6c30090b1d7cc0e3dbb7b147adcf3621084e6473ee0fa40ba1287", func := "example.com/syncline/syncline/zzlaws_replid_b1.FnValidCutAnyPlace", spec := "fnValidCutAnyPlace", apart := false }
def FnValidCutAnyPlaceSaid : Prop := fnValidCutAnyPlaceRow.holds Try.pinned (OpenSpec.ofChange fnValidCutAnyPlaceSpec)

/-- ITS FALSE NEIGHBOUR: 'it returns false'. Refute it at one input. -/
def fnValidCutAnyPlaceWrong : ChangeSpec := { name := "fnValidCutAnyPlace", fn := fun _ => fun
  | [d1, d2] => { results := [.lit (.bool false)], args := [d1, d2] }
  | _ => none }
def FnValidCutAnyPlaceWrongFalsely : Prop := fnValidCutAnyPlaceRow.holds Try.pinned (OpenSpec.ofChange fnValidCutAnyPlaceWrong)

/-- 'zzlaws_replid_b1.FnValidRefusesUpperCaseAndOtherLengths': WHATEVER THE INPUT: true; the input reads as it did. -/
def fnValidRefusesUpperCaseAndOtherLengthsSpec : ChangeSpec := { name := "fnValidRefusesUpperCaseAndOtherLengths", fn := fun _ => fun
  | [d] => { results := [.lit (.bool true)], args := [d] }
  | _ => none }
def fnValidRefusesUpperCaseAndOtherLengthsRow : OpenClaim := { program := "qxb6634895a", sum := "191229e065b6c30090b1d7cc0e3dbb7b147adcf3621084e6473ee0fa40ba1287", func := "example.com/syncline/syncline/zzlaws_replid_b1.FnValidRefusesUpperCaseAndOtherLengths", spec := "fnValidRefusesUpperCaseAndOtherLengths", apart := false }
def FnValidRefusesUpperCaseAndOtherLengthsSaid : Prop := fnValidRefusesUpperCaseAndOtherLengthsRow.holds Try.pinned (OpenSpec.ofChange fnValidRefusesUpperCaseAndOtherLengthsSpec)

/-- ITS FALSE NEIGHBOUR: 'it returns false'. Refute it at one input. -/
def fnValidRefusesUpperCaseAndOtherLengthsWrong : ChangeSpec := { name := "fnValidRefusesUpperCaseAndOtherLengths", fn := fun _ => fun
  | [d] => { results := [.lit (.bool false)], args := [d] }
  | _ => none }
def FnValidRefusesUpperCaseAndOtherLengthsWrongFalsely : Prop := fnValidRefusesUpperCaseAndOtherLengthsRow.holds Try.pinned (OpenSpec.ofChange fnValidRefusesUpperCaseAndOtherLengthsWrong)

end Rows
end Go.Proofs.Qxb6634895a
