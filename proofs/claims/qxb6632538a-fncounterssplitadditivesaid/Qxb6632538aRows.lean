/-
  No cell of these rows narrows 'for every input' (looked for: loops, veiled, ifaces, maps, wideKeys, modest, calm, conditions, laid).
  DERIVED. THE GIVEN ROWS OF THIS SEAT. 2 by the template 'for every input the law returns true; each argument reads behind the call as it read before'; 0 by the template 'total and deterministic' (their statements: Qxb6632538aTotals.lean).
  GIVEN WITH THE SEED: the statements are not yours to turn. If you find one false, say at which input.
  Laid BY PROGRAM, IN A SANDBOX (cutbox-rows.mjs): the forced cells as the released guide's own fill.sh prints them over the translation fb7c4e7eeb13b375… (all of the seat's roots in one cut). By AI agents, Wed Nov 11 2026. No macro, syntax, notation, axiom, sorry.
-/
import Derived.Test.Qxb6632538aChecked
import GoSem.Claim
import GoSem.ClaimJoined
import GoSem.ClaimMapViews
import Derived.JoinedTies
import Derived.KernelRfl
namespace Go.Proofs.Qxb6632538a
/- THE CELL 'sum', in the pinned program and in every row, IS THE sha256 OF THE DUMP (.gsa) THAT Qxb6632538aProg.lean LOADS. Nothing in Lean hashes anything: it is a label: what it is worth is what the hold of that sum in a sandbox is worth. -/
noncomputable def Try.pinned : Pinned := { name := "qxb6632538a", sum := "fb7c4e7eeb13b3753adb665ab206d34bea661e98966ffaa811c84eb78f8fb091", checked := Try.checked }
namespace Rows
def none {H : Type} : Left H := { results := [], args := [] }

/-- 'zzlaws_internal_engine_b1.FnCountersSplitAdditive': WHATEVER THE INPUT: true; the input reads as it did. -/
def fnCountersSplitAdditiveSpec : ChangeSpec := { name := "fnCountersSplitAdditive", fn := fun _ => fun
  | [d1, d2, d3, d4] => { results := [.lit (.bool true)], args := [d1, d2, d3, d4] }
  | _ => none }
def fnCountersSplitAdditiveRow : OpenClaim := { program := "qxb6632538a", sum := "fb7c4e7eeb13b3753adb665ab206d34bea661e98966ffaa811c84eb78f8fb091", func := "example.com/millrace/millrace/zzlaws_internal_engine_b1.FnCountersSplitAdditive", spec := "fnCountersSplitAdditive", apart := false }
def FnCountersSplitAdditiveSaid : Prop := fnCountersSplitAdditiveRow.holds Try.pinned (OpenSpec.ofChange fnCountersSplitAdditiveSpec)

/-- ITS FALSE NEIGHBOUR: 'it returns false'. Refute it at one input. -/
def fnCountersSplitAdditiveWrong : ChangeSpec := { name := "fnCountersSplitAdditive", fn := fun _ => fun
  | [d1, d2, d3, d4] => { results := [.lit (.bool false)], args := [d1, d2, d3, d4] }
  | _ => none }
def FnCountersSplitAdditiveWrongFalsely : Prop := fnCountersSplitAdditiveRow.holds Try.pinned (OpenSpec.ofChange fnCountersSplitAdditiveWrong)

/-- 'zzlaws_internal_engine_b1.FnCountersFreshMap': WHATEVER THE INPUT: true; the input reads as it did. -/
def fnCountersFreshMapSpec : ChangeSpec := { name := "fnCountersFreshMap", fn := fun _ => fun
  | [d1, d2, d3] => { results := [.lit (.bool true)], args := [d1, d2, d3] }
  | _ => none }
def fnCountersFreshMapRow : OpenClaim := { program := "qxb6632538a", sum := "fb7c4e7eeb13b3753adb665ab206d34bea661e98966ffaa811c84eb78f8fb091", func := "example.com/millrace/millrace/zzlaws_internal_engine_b1.FnCountersFreshMap", spec := "fnCountersFreshMap", apart := false }
def FnCountersFreshMapSaid : Prop := fnCountersFreshMapRow.holds Try.pinned (OpenSpec.ofChange fnCountersFreshMapSpec)

/-- ITS FALSE NEIGHBOUR: 'it returns false'. Refute it at one input. -/
def fnCountersFreshMapWrong : ChangeSpec := { name := "fnCountersFreshMap", fn := fun _ => fun
  | [d1, d2, d3] => { results := [.lit (.bool false)], args := [d1, d2, d3] }
  | _ => none }
def FnCountersFreshMapWrongFalsely : Prop := fnCountersFreshMapRow.holds Try.pinned (OpenSpec.ofChange fnCountersFreshMapWrong)

end Rows
end Go.Proofs.Qxb6632538a
