/-
  No cell of these rows narrows 'for every input' (looked for: loops, veiled, ifaces, maps, wideKeys, modest, calm, conditions, laid).
  DERIVED. THE GIVEN ROWS OF THIS SEAT. 2 by the template 'for every input the law returns true; each argument reads behind the call as it read before'; 0 by the template 'total and deterministic' (their statements: Qxb6604560aTotals.lean).
  GIVEN WITH THE SEED: the statements are not yours to turn. If you find one false, say at which input.
  Laid BY PROGRAM, IN A SANDBOX (cutbox-rows.mjs): the forced cells as the released guide's own fill.sh prints them over the translation 5b86dc9bcf5a91c8… (all of the seat's roots in one cut). By AI agents, Wed Nov 11 2026. No macro, syntax, notation, axiom, sorry.
-/
import Derived.Test.Qxb6604560aChecked
import GoSem.Claim
import GoSem.ClaimJoined
import GoSem.ClaimMapViews
import Derived.JoinedTies
import Derived.KernelRfl
namespace Go.Proofs.Qxb6604560a
/- THE CELL 'sum', in the pinned program and in every row, IS THE sha256 OF THE DUMP (.gsa) THAT Qxb6604560aProg.lean LOADS. Nothing in Lean hashes anything: it is a label: what it is worth is what the hold of that sum in a sandbox is worth. -/
noncomputable def Try.pinned : Pinned := { name := "qxb6604560a", sum := "5b86dc9bcf5a91c8ecd92afacb3c2e599ce5e944abd0daf8f46a85930c004e61", checked := Try.checked }
namespace Rows
def none {H : Type} : Left H := { results := [], args := [] }

/-- 'zzlaws_root_b1.FnDrawStep': WHATEVER THE INPUT: true; the input reads as it did. -/
def fnDrawStepSpec : ChangeSpec := { name := "fnDrawStep", fn := fun _ => fun
  | [d1, d2, d3, d4] => { results := [.lit (.bool true)], args := [d1, d2, d3, d4] }
  | _ => none }
def fnDrawStepRow : OpenClaim := { program := "qxb6604560a", sum := "5b86dc9bcf5a91c8ecd92afacb3c2e599ce5e944abd0daf8f46a85930c004e61", func := "example.com/runnymede/runnymede/zzlaws_root_b1.FnDrawStep", spec := "fnDrawStep", apart := false }
def FnDrawStepSaid : Prop := fnDrawStepRow.holds Try.pinned (OpenSpec.ofChange fnDrawStepSpec)

/-- ITS FALSE NEIGHBOUR: 'it returns false'. Refute it at one input. -/
def fnDrawStepWrong : ChangeSpec := { name := "fnDrawStep", fn := fun _ => fun
  | [d1, d2, d3, d4] => { results := [.lit (.bool false)], args := [d1, d2, d3, d4] }
  | _ => none }
def FnDrawStepWrongFalsely : Prop := fnDrawStepRow.holds Try.pinned (OpenSpec.ofChange fnDrawStepWrong)

/-- 'zzlaws_root_b1.FnDrawPermutesAndAdvances': WHATEVER THE INPUT: true; the input reads as it did. -/
def fnDrawPermutesAndAdvancesSpec : ChangeSpec := { name := "fnDrawPermutesAndAdvances", fn := fun _ => fun
  | [d1, d2, d3, d4] => { results := [.lit (.bool true)], args := [d1, d2, d3, d4] }
  | _ => none }
def fnDrawPermutesAndAdvancesRow : OpenClaim := { program := "qxb6604560a", sum := "5b86dc9bcf5a91c8ecd92afacb3c2e599ce5e944abd0daf8f46a85930c004e61", func := "example.com/runnymede/runnymede/zzlaws_root_b1.FnDrawPermutesAndAdvances", spec := "fnDrawPermutesAndAdvances", apart := false }
def FnDrawPermutesAndAdvancesSaid : Prop := fnDrawPermutesAndAdvancesRow.holds Try.pinned (OpenSpec.ofChange fnDrawPermutesAndAdvancesSpec)

/-- ITS FALSE NEIGHBOUR: 'it returns false'. Refute it at one input. -/
def fnDrawPermutesAndAdvancesWrong : ChangeSpec := { name := "fnDrawPermutesAndAdvances", fn := fun _ => fun
  | [d1, d2, d3, d4] => { results := [.lit (.bool false)], args := [d1, d2, d3, d4] }
  | _ => none }
def FnDrawPermutesAndAdvancesWrongFalsely : Prop := fnDrawPermutesAndAdvancesRow.holds Try.pinned (OpenSpec.ofChange fnDrawPermutesAndAdvancesWrong)

end Rows
end Go.Proofs.Qxb6604560a
