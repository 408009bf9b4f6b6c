/-
  No cell of these rows narrows 'for every input' (looked for: loops, veiled, ifaces, maps, wideKeys, modest, calm, conditions, laid).
  DERIVED. THE GIVEN ROWS OF THIS SEAT. 2 by the template 'for every input the law returns true; each argument reads behind the call as it read before'; 0 by the template 'total and deterministic' (their statements: Qxb6634833aTotals.lean).
  GIVEN WITH THE SEED: the statements are not yours to turn. If you find one false, say at which input.
  Laid BY PROGRAM, IN A SANDBOX (cutbox-rows.mjs): the forced cells as the released guide's own fill.sh prints them over the translation 41ff92a45b36955d… (all of the seat's roots in one cut). By AI agents, Wed Nov 11 2026. No macro, syntax, notation, axiom, sorry.
-/
import Derived.Test.Qxb6634833aChecked
import GoSem.Claim
import GoSem.ClaimJoined
import GoSem.ClaimMapViews
import Derived.JoinedTies
import Derived.KernelRfl
namespace Go.Proofs.Qxb6634833a
/- THE CELL 'sum', in the pinned program and in every row, IS THE sha256 OF THE DUMP (.gsa) THAT Qxb6634833aProg.lean LOADS. Nothing in Lean hashes anything: it is a label: what it is worth is what the hold of that sum in a sandbox is worth. -/
noncomputable def Try.pinned : Pinned := { name := "qxb6634833a", sum := "41ff92a45b36955debe732c9bb643b3791bff2bedbb1d443e543e2aae93c559e", checked := Try.checked }
namespace Rows
def none {H : Type} : Left H := { results := [], args := [] }

/-- 'zzlaws_diameter_b1.FnFindAVPInsertedMatchAnswersAfterPrefix': WHATEVER THE INPUT: true; the input reads as it did. -/
def fnFindAVPInsertedMatchAnswersAfterPrefixSpec : ChangeSpec := { name := "fnFindAVPInsertedMatchAnswersAfterPrefix", fn := fun _ => fun
  | [d1, d2, d3, d4, d5, d6] => { results := [.lit (.bool true)], args := [d1, d2, d3, d4, d5, d6] }
  | _ => none }
def fnFindAVPInsertedMatchAnswersAfterPrefixRow : OpenClaim := { program := "qxb6634833a", sum := "41ff92a45b36955debe732c9bb643b3791bff2bedbb1d443e543e2aae93c559e", func := "example.com/tollwire/tollwire/zzlaws_diameter_b1.FnFindAVPInsertedMatchAnswersAfterPrefix", spec := "fnFindAVPInsertedMatchAnswersAfterPrefix", apart := false }
def FnFindAVPInsertedMatchAnswersAfterPrefixSaid : Prop := fnFindAVPInsertedMatchAnswersAfterPrefixRow.holds Try.pinned (OpenSpec.ofChange fnFindAVPInsertedMatchAnswersAfterPrefixSpec)

/-- ITS FALSE NEIGHBOUR: 'it returns false'. Refute it at one input. -/
def fnFindAVPInsertedMatchAnswersAfterPrefixWrong : ChangeSpec := { name := "fnFindAVPInsertedMatchAnswersAfterPrefix", fn := fun _ => fun
  | [d1, d2, d3, d4, d5, d6] => { results := [.lit (.bool false)], args := [d1, d2, d3, d4, d5, d6] }
  | _ => none }
def FnFindAVPInsertedMatchAnswersAfterPrefixWrongFalsely : Prop := fnFindAVPInsertedMatchAnswersAfterPrefixRow.holds Try.pinned (OpenSpec.ofChange fnFindAVPInsertedMatchAnswersAfterPrefixWrong)

/-- 'zzlaws_diameter_b1.FnFindAVPNonMatchingAVPAnywhereIsSkipped': WHATEVER THE INPUT: true; the input reads as it did. -/
def fnFindAVPNonMatchingAVPAnywhereIsSkippedSpec : ChangeSpec := { name := "fnFindAVPNonMatchingAVPAnywhereIsSkipped", fn := fun _ => fun
  | [d1, d2, d3, d4, d5, d6, d7, d8] => { results := [.lit (.bool true)], args := [d1, d2, d3, d4, d5, d6, d7, d8] }
  | _ => none }
def fnFindAVPNonMatchingAVPAnywhereIsSkippedRow : OpenClaim := { program := "qxb6634833a", sum := "41ff92a45b36955debe732c9bb643b3791bff2bedbb1d443e543e2aae93c559e", func := "example.com/tollwire/tollwire/zzlaws_diameter_b1.FnFindAVPNonMatchingAVPAnywhereIsSkipped", spec := "fnFindAVPNonMatchingAVPAnywhereIsSkipped", apart := false }
def FnFindAVPNonMatchingAVPAnywhereIsSkippedSaid : Prop := fnFindAVPNonMatchingAVPAnywhereIsSkippedRow.holds Try.pinned (OpenSpec.ofChange fnFindAVPNonMatchingAVPAnywhereIsSkippedSpec)

/-- ITS FALSE NEIGHBOUR: 'it returns false'. Refute it at one input. -/
def fnFindAVPNonMatchingAVPAnywhereIsSkippedWrong : ChangeSpec := { name := "fnFindAVPNonMatchingAVPAnywhereIsSkipped", fn := fun _ => fun
  | [d1, d2, d3, d4, d5, d6, d7, d8] => { results := [.lit (.bool false)], args := [d1, d2, d3, d4, d5, d6, d7, d8] }
  | _ => none }
def FnFindAVPNonMatchingAVPAnywhereIsSkippedWrongFalsely : Prop := fnFindAVPNonMatchingAVPAnywhereIsSkippedRow.holds Try.pinned (OpenSpec.ofChange fnFindAVPNonMatchingAVPAnywhereIsSkippedWrong)

end Rows
end Go.Proofs.Qxb6634833a
