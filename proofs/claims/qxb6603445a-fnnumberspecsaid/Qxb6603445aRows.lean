/-
  No cell of these rows narrows 'for every input' (looked for: loops, veiled, ifaces, maps, wideKeys, modest, calm, conditions, laid).
  DERIVED. THE GIVEN ROWS OF THIS SEAT. 8 by the template 'for every input the law returns true; each argument reads behind the call as it read before'; 0 by the template 'total and deterministic' (their statements: Qxb6603445aTotals.lean).
  GIVEN WITH THE SEED: the statements are not yours to turn. If you find one false, say at which input.
  Laid BY PROGRAM, IN A SANDBOX (cutbox-rows.mjs): the forced cells as the released guide's own fill.sh prints them over the translation ce538240e3384331… (all of the seat's roots in one cut). By AI agents, Wed Nov 11 2026. No macro, syntax, notation, axiom, sorry.
-/
import Derived.Test.Qxb6603445aChecked
import GoSem.Claim
import GoSem.ClaimJoined
import GoSem.ClaimMapViews
import Derived.JoinedTies
import Derived.KernelRfl
namespace Go.Proofs.Qxb6603445a
/- THE CELL 'sum', in the pinned program and in every row, IS THE sha256 OF THE DUMP (.gsa) THAT Qxb6603445aProg.lean LOADS. Nothing in Lean hashes anything: it is a label: what it is worth is what the hold of that sum in a sandbox is worth. -/
noncomputable def Try.pinned : Pinned := { name := "qxb6603445a", sum := "ce538240e3384331f7d7e63817fa389615a2feb4f518fecc751eb4109f311f8b", checked := Try.checked }
namespace Rows
def none {H : Type} : Left H := { results := [], args := [] }

/-- 'zzlaws_pkg_schedule_b1.FnDigitsSpec': WHATEVER THE INPUT: true; the input reads as it did. -/
def fnDigitsSpecSpec : ChangeSpec := { name := "fnDigitsSpec", fn := fun _ => fun
  | [d] => { results := [.lit (.bool true)], args := [d] }
  | _ => none }
def fnDigitsSpecRow : OpenClaim := { program := "qxb6603445a", sum := "ce538240e3384331f7d7e63817fa389615a2feb4f518fecc751eb4109f311f8b", func := "example.com/tickwright/tickwright/zzlaws_pkg_schedule_b1.FnDigitsSpec", spec := "fnDigitsSpec", apart := false }
def FnDigitsSpecSaid : Prop := fnDigitsSpecRow.holds Try.pinned (OpenSpec.ofChange fnDigitsSpecSpec)

/-- ITS FALSE NEIGHBOUR: 'it returns false'. Refute it at one input. -/
def fnDigitsSpecWrong : ChangeSpec := { name := "fnDigitsSpec", fn := fun _ => fun
  | [d] => { results := [.lit (.bool false)], args := [d] }
  | _ => none }
def FnDigitsSpecWrongFalsely : Prop := fnDigitsSpecRow.holds Try.pinned (OpenSpec.ofChange fnDigitsSpecWrong)

/-- 'zzlaws_pkg_schedule_b1.FnDigitsConcat': WHATEVER THE INPUT: true; the input reads as it did. -/
def fnDigitsConcatSpec : ChangeSpec := { name := "fnDigitsConcat", fn := fun _ => fun
  | [d1, d2] => { results := [.lit (.bool true)], args := [d1, d2] }
  | _ => none }
def fnDigitsConcatRow : OpenClaim := { program := "qxb6603445a", sum := "ce538240e3384331f7d7e63817fa389615a2feb4f518fecc751eb4109f311f8b", func := "example.com/tickwright/tickwright/zzlaws_pkg_schedule_b1.FnDigitsConcat", spec := "fnDigitsConcat", apart := false }
def FnDigitsConcatSaid : Prop := fnDigitsConcatRow.holds Try.pinned (OpenSpec.ofChange fnDigitsConcatSpec)

/-- ITS FALSE NEIGHBOUR: 'it returns false'. Refute it at one input. -/
def fnDigitsConcatWrong : ChangeSpec := { name := "fnDigitsConcat", fn := fun _ => fun
  | [d1, d2] => { results := [.lit (.bool false)], args := [d1, d2] }
  | _ => none }
def FnDigitsConcatWrongFalsely : Prop := fnDigitsConcatRow.holds Try.pinned (OpenSpec.ofChange fnDigitsConcatWrong)

/-- 'zzlaws_pkg_schedule_b1.FnNumberSpec': WHATEVER THE INPUT: true; the input reads as it did. -/
def fnNumberSpecSpec : ChangeSpec := { name := "fnNumberSpec", fn := fun _ => fun
  | [d] => { results := [.lit (.bool true)], args := [d] }
  | _ => none }
def fnNumberSpecRow : OpenClaim := { program := "qxb6603445a", sum := "ce538240e3384331f7d7e63817fa389615a2feb4f518fecc751eb4109f311f8b", func := "example.com/tickwright/tickwright/zzlaws_pkg_schedule_b1.FnNumberSpec", spec := "fnNumberSpec", apart := false }
def FnNumberSpecSaid : Prop := fnNumberSpecRow.holds Try.pinned (OpenSpec.ofChange fnNumberSpecSpec)

/-- ITS FALSE NEIGHBOUR: 'it returns false'. Refute it at one input. -/
def fnNumberSpecWrong : ChangeSpec := { name := "fnNumberSpec", fn := fun _ => fun
  | [d] => { results := [.lit (.bool false)], args := [d] }
  | _ => none }
def FnNumberSpecWrongFalsely : Prop := fnNumberSpecRow.holds Try.pinned (OpenSpec.ofChange fnNumberSpecWrong)

/-- 'zzlaws_pkg_schedule_b1.FnNumberLeadingZero': WHATEVER THE INPUT: true; the input reads as it did. -/
def fnNumberLeadingZeroSpec : ChangeSpec := { name := "fnNumberLeadingZero", fn := fun _ => fun
  | [d] => { results := [.lit (.bool true)], args := [d] }
  | _ => none }
def fnNumberLeadingZeroRow : OpenClaim := { program := "qxb6603445a", sum := "ce538240e3384331f7d7e63817fa389615a2feb4f518fecc751eb4109f311f8b", func := "example.com/tickwright/tickwright/zzlaws_pkg_schedule_b1.FnNumberLeadingZero", spec := "fnNumberLeadingZero", apart := false }
def FnNumberLeadingZeroSaid : Prop := fnNumberLeadingZeroRow.holds Try.pinned (OpenSpec.ofChange fnNumberLeadingZeroSpec)

/-- ITS FALSE NEIGHBOUR: 'it returns false'. Refute it at one input. -/
def fnNumberLeadingZeroWrong : ChangeSpec := { name := "fnNumberLeadingZero", fn := fun _ => fun
  | [d] => { results := [.lit (.bool false)], args := [d] }
  | _ => none }
def FnNumberLeadingZeroWrongFalsely : Prop := fnNumberLeadingZeroRow.holds Try.pinned (OpenSpec.ofChange fnNumberLeadingZeroWrong)

/-- 'zzlaws_pkg_schedule_b1.FnNumberAgreesWithDigitsAndIsoNumber': WHATEVER THE INPUT: true; the input reads as it did. -/
def fnNumberAgreesWithDigitsAndIsoNumberSpec : ChangeSpec := { name := "fnNumberAgreesWithDigitsAndIsoNumber", fn := fun _ => fun
  | [d] => { results := [.lit (.bool true)], args := [d] }
  | _ => none }
def fnNumberAgreesWithDigitsAndIsoNumberRow : OpenClaim := { program := "qxb6603445a", sum := "ce538240e3384331f7d7e63817fa389615a2feb4f518fecc751eb4109f311f8b", func := "example.com/tickwright/tickwright/zzlaws_pkg_schedule_b1.FnNumberAgreesWithDigitsAndIsoNumber", spec := "fnNumberAgreesWithDigitsAndIsoNumber", apart := false }
def FnNumberAgreesWithDigitsAndIsoNumberSaid : Prop := fnNumberAgreesWithDigitsAndIsoNumberRow.holds Try.pinned (OpenSpec.ofChange fnNumberAgreesWithDigitsAndIsoNumberSpec)

/-- ITS FALSE NEIGHBOUR: 'it returns false'. Refute it at one input. -/
def fnNumberAgreesWithDigitsAndIsoNumberWrong : ChangeSpec := { name := "fnNumberAgreesWithDigitsAndIsoNumber", fn := fun _ => fun
  | [d] => { results := [.lit (.bool false)], args := [d] }
  | _ => none }
def FnNumberAgreesWithDigitsAndIsoNumberWrongFalsely : Prop := fnNumberAgreesWithDigitsAndIsoNumberRow.holds Try.pinned (OpenSpec.ofChange fnNumberAgreesWithDigitsAndIsoNumberWrong)

/-- 'zzlaws_pkg_schedule_b1.FnIsoNumberSpec': WHATEVER THE INPUT: true; the input reads as it did. -/
def fnIsoNumberSpecSpec : ChangeSpec := { name := "fnIsoNumberSpec", fn := fun _ => fun
  | [d] => { results := [.lit (.bool true)], args := [d] }
  | _ => none }
def fnIsoNumberSpecRow : OpenClaim := { program := "qxb6603445a", sum := "ce538240e3384331f7d7e63817fa389615a2feb4f518fecc751eb4109f311f8b", func := "example.com/tickwright/tickwright/zzlaws_pkg_schedule_b1.FnIsoNumberSpec", spec := "fnIsoNumberSpec", apart := false }
def FnIsoNumberSpecSaid : Prop := fnIsoNumberSpecRow.holds Try.pinned (OpenSpec.ofChange fnIsoNumberSpecSpec)

/-- ITS FALSE NEIGHBOUR: 'it returns false'. Refute it at one input. -/
def fnIsoNumberSpecWrong : ChangeSpec := { name := "fnIsoNumberSpec", fn := fun _ => fun
  | [d] => { results := [.lit (.bool false)], args := [d] }
  | _ => none }
def FnIsoNumberSpecWrongFalsely : Prop := fnIsoNumberSpecRow.holds Try.pinned (OpenSpec.ofChange fnIsoNumberSpecWrong)

/-- 'zzlaws_pkg_schedule_b1.FnIsoNumberPrefixStable': WHATEVER THE INPUT: true; the input reads as it did. -/
def fnIsoNumberPrefixStableSpec : ChangeSpec := { name := "fnIsoNumberPrefixStable", fn := fun _ => fun
  | [d] => { results := [.lit (.bool true)], args := [d] }
  | _ => none }
def fnIsoNumberPrefixStableRow : OpenClaim := { program := "qxb6603445a", sum := "ce538240e3384331f7d7e63817fa389615a2feb4f518fecc751eb4109f311f8b", func := "example.com/tickwright/tickwright/zzlaws_pkg_schedule_b1.FnIsoNumberPrefixStable", spec := "fnIsoNumberPrefixStable", apart := false }
def FnIsoNumberPrefixStableSaid : Prop := fnIsoNumberPrefixStableRow.holds Try.pinned (OpenSpec.ofChange fnIsoNumberPrefixStableSpec)

/-- ITS FALSE NEIGHBOUR: 'it returns false'. Refute it at one input. -/
def fnIsoNumberPrefixStableWrong : ChangeSpec := { name := "fnIsoNumberPrefixStable", fn := fun _ => fun
  | [d] => { results := [.lit (.bool false)], args := [d] }
  | _ => none }
def FnIsoNumberPrefixStableWrongFalsely : Prop := fnIsoNumberPrefixStableRow.holds Try.pinned (OpenSpec.ofChange fnIsoNumberPrefixStableWrong)

/-- 'zzlaws_pkg_schedule_b1.FnIsoNumberSeparatorSwap': WHATEVER THE INPUT: true; the input reads as it did. -/
def fnIsoNumberSeparatorSwapSpec : ChangeSpec := { name := "fnIsoNumberSeparatorSwap", fn := fun _ => fun
  | [d] => { results := [.lit (.bool true)], args := [d] }
  | _ => none }
def fnIsoNumberSeparatorSwapRow : OpenClaim := { program := "qxb6603445a", sum := "ce538240e3384331f7d7e63817fa389615a2feb4f518fecc751eb4109f311f8b", func := "example.com/tickwright/tickwright/zzlaws_pkg_schedule_b1.FnIsoNumberSeparatorSwap", spec := "fnIsoNumberSeparatorSwap", apart := false }
def FnIsoNumberSeparatorSwapSaid : Prop := fnIsoNumberSeparatorSwapRow.holds Try.pinned (OpenSpec.ofChange fnIsoNumberSeparatorSwapSpec)

/-- ITS FALSE NEIGHBOUR: 'it returns false'. Refute it at one input. -/
def fnIsoNumberSeparatorSwapWrong : ChangeSpec := { name := "fnIsoNumberSeparatorSwap", fn := fun _ => fun
  | [d] => { results := [.lit (.bool false)], args := [d] }
  | _ => none }
def FnIsoNumberSeparatorSwapWrongFalsely : Prop := fnIsoNumberSeparatorSwapRow.holds Try.pinned (OpenSpec.ofChange fnIsoNumberSeparatorSwapWrong)

end Rows
end Go.Proofs.Qxb6603445a
