/-
  No cell of these rows narrows 'for every input' (looked for: loops, veiled, ifaces, maps, wideKeys, modest, calm, conditions, laid).
  DERIVED. THE GIVEN ROWS OF THIS SEAT. 6 by the template 'for every input the law returns true; each argument reads behind the call as it read before'; 0 by the template 'total and deterministic' (their statements: Qxb6604287aTotals.lean).
  GIVEN WITH THE SEED: the statements are not yours to turn. If you find one false, say at which input.
  Laid BY PROGRAM, IN A SANDBOX (cutbox-rows.mjs): the forced cells as the released guide's own fill.sh prints them over the translation e241fc9c3d6fd8d0… (all of the seat's roots in one cut). By AI agents, Wed Nov 11 2026. No macro, syntax, notation, axiom, sorry.
-/
import Derived.Test.Qxb6604287aChecked
import GoSem.Claim
import GoSem.ClaimJoined
import GoSem.ClaimMapViews
import Derived.JoinedTies
import Derived.KernelRfl
namespace Go.Proofs.Qxb6604287a
/- THE CELL 'sum', in the pinned program and in every row, IS THE sha256 OF THE DUMP (.gsa) THAT Qxb6604287aProg.lean LOADS. Nothing in Lean hashes anything: it is a label: what it is worth is what the hold of that sum in a sandbox is worth. -/
noncomputable def Try.pinned : Pinned := { name := "qxb6604287a", sum := "e241fc9c3d6fd8d02ac947053959bf9312f8042309f9b7db943d64058e57495f", checked := Try.checked }
namespace Rows
def none {H : Type} : Left H := { results := [], args := [] }

/-- 'zzlaws_pkg_participant_b1.FnSlotOfMatchesScanModel': WHATEVER THE INPUT: true; the input reads as it did. -/
def fnSlotOfMatchesScanModelSpec : ChangeSpec := { name := "fnSlotOfMatchesScanModel", fn := fun _ => fun
  | [d1, d2] => { results := [.lit (.bool true)], args := [d1, d2] }
  | _ => none }
def fnSlotOfMatchesScanModelRow : OpenClaim := { program := "qxb6604287a", sum := "e241fc9c3d6fd8d02ac947053959bf9312f8042309f9b7db943d64058e57495f", func := "example.com/vestline/vestline/zzlaws_pkg_participant_b1.FnSlotOfMatchesScanModel", spec := "fnSlotOfMatchesScanModel", apart := false }
def FnSlotOfMatchesScanModelSaid : Prop := fnSlotOfMatchesScanModelRow.holds Try.pinned (OpenSpec.ofChange fnSlotOfMatchesScanModelSpec)

/-- ITS FALSE NEIGHBOUR: 'it returns false'. Refute it at one input. -/
def fnSlotOfMatchesScanModelWrong : ChangeSpec := { name := "fnSlotOfMatchesScanModel", fn := fun _ => fun
  | [d1, d2] => { results := [.lit (.bool false)], args := [d1, d2] }
  | _ => none }
def FnSlotOfMatchesScanModelWrongFalsely : Prop := fnSlotOfMatchesScanModelRow.holds Try.pinned (OpenSpec.ofChange fnSlotOfMatchesScanModelWrong)

/-- 'zzlaws_pkg_participant_b1.FnSlotOfIdentityKeepIsNoKeep': WHATEVER THE INPUT: true; the input reads as it did. -/
def fnSlotOfIdentityKeepIsNoKeepSpec : ChangeSpec := { name := "fnSlotOfIdentityKeepIsNoKeep", fn := fun _ => fun
  | [d1, d2] => { results := [.lit (.bool true)], args := [d1, d2] }
  | _ => none }
def fnSlotOfIdentityKeepIsNoKeepRow : OpenClaim := { program := "qxb6604287a", sum := "e241fc9c3d6fd8d02ac947053959bf9312f8042309f9b7db943d64058e57495f", func := "example.com/vestline/vestline/zzlaws_pkg_participant_b1.FnSlotOfIdentityKeepIsNoKeep", spec := "fnSlotOfIdentityKeepIsNoKeep", apart := false }
def FnSlotOfIdentityKeepIsNoKeepSaid : Prop := fnSlotOfIdentityKeepIsNoKeepRow.holds Try.pinned (OpenSpec.ofChange fnSlotOfIdentityKeepIsNoKeepSpec)

/-- ITS FALSE NEIGHBOUR: 'it returns false'. Refute it at one input. -/
def fnSlotOfIdentityKeepIsNoKeepWrong : ChangeSpec := { name := "fnSlotOfIdentityKeepIsNoKeep", fn := fun _ => fun
  | [d1, d2] => { results := [.lit (.bool false)], args := [d1, d2] }
  | _ => none }
def FnSlotOfIdentityKeepIsNoKeepWrongFalsely : Prop := fnSlotOfIdentityKeepIsNoKeepRow.holds Try.pinned (OpenSpec.ofChange fnSlotOfIdentityKeepIsNoKeepWrong)

/-- 'zzlaws_pkg_participant_b1.FnWholeTextMatchesPlaceValueModel': WHATEVER THE INPUT: true; the input reads as it did. -/
def fnWholeTextMatchesPlaceValueModelSpec : ChangeSpec := { name := "fnWholeTextMatchesPlaceValueModel", fn := fun _ => fun
  | [d] => { results := [.lit (.bool true)], args := [d] }
  | _ => none }
def fnWholeTextMatchesPlaceValueModelRow : OpenClaim := { program := "qxb6604287a", sum := "e241fc9c3d6fd8d02ac947053959bf9312f8042309f9b7db943d64058e57495f", func := "example.com/vestline/vestline/zzlaws_pkg_participant_b1.FnWholeTextMatchesPlaceValueModel", spec := "fnWholeTextMatchesPlaceValueModel", apart := false }
def FnWholeTextMatchesPlaceValueModelSaid : Prop := fnWholeTextMatchesPlaceValueModelRow.holds Try.pinned (OpenSpec.ofChange fnWholeTextMatchesPlaceValueModelSpec)

/-- ITS FALSE NEIGHBOUR: 'it returns false'. Refute it at one input. -/
def fnWholeTextMatchesPlaceValueModelWrong : ChangeSpec := { name := "fnWholeTextMatchesPlaceValueModel", fn := fun _ => fun
  | [d] => { results := [.lit (.bool false)], args := [d] }
  | _ => none }
def FnWholeTextMatchesPlaceValueModelWrongFalsely : Prop := fnWholeTextMatchesPlaceValueModelRow.holds Try.pinned (OpenSpec.ofChange fnWholeTextMatchesPlaceValueModelWrong)

/-- 'zzlaws_pkg_participant_b1.FnWholeTextReadsBackOwnDigits': WHATEVER THE INPUT: true; the input reads as it did. -/
def fnWholeTextReadsBackOwnDigitsSpec : ChangeSpec := { name := "fnWholeTextReadsBackOwnDigits", fn := fun _ => fun
  | [d1, d2] => { results := [.lit (.bool true)], args := [d1, d2] }
  | _ => none }
def fnWholeTextReadsBackOwnDigitsRow : OpenClaim := { program := "qxb6604287a", sum := "e241fc9c3d6fd8d02ac947053959bf9312f8042309f9b7db943d64058e57495f", func := "example.com/vestline/vestline/zzlaws_pkg_participant_b1.FnWholeTextReadsBackOwnDigits", spec := "fnWholeTextReadsBackOwnDigits", apart := false }
def FnWholeTextReadsBackOwnDigitsSaid : Prop := fnWholeTextReadsBackOwnDigitsRow.holds Try.pinned (OpenSpec.ofChange fnWholeTextReadsBackOwnDigitsSpec)

/-- ITS FALSE NEIGHBOUR: 'it returns false'. Refute it at one input. -/
def fnWholeTextReadsBackOwnDigitsWrong : ChangeSpec := { name := "fnWholeTextReadsBackOwnDigits", fn := fun _ => fun
  | [d1, d2] => { results := [.lit (.bool false)], args := [d1, d2] }
  | _ => none }
def FnWholeTextReadsBackOwnDigitsWrongFalsely : Prop := fnWholeTextReadsBackOwnDigitsRow.holds Try.pinned (OpenSpec.ofChange fnWholeTextReadsBackOwnDigitsWrong)

/-- 'zzlaws_pkg_participant_b1.FnPlainDecimalMatchesAutomaton': WHATEVER THE INPUT: true; the input reads as it did. -/
def fnPlainDecimalMatchesAutomatonSpec : ChangeSpec := { name := "fnPlainDecimalMatchesAutomaton", fn := fun _ => fun
  | [d] => { results := [.lit (.bool true)], args := [d] }
  | _ => none }
def fnPlainDecimalMatchesAutomatonRow : OpenClaim := { program := "qxb6604287a", sum := "e241fc9c3d6fd8d02ac947053959bf9312f8042309f9b7db943d64058e57495f", func := "example.com/vestline/vestline/zzlaws_pkg_participant_b1.FnPlainDecimalMatchesAutomaton", spec := "fnPlainDecimalMatchesAutomaton", apart := false }
def FnPlainDecimalMatchesAutomatonSaid : Prop := fnPlainDecimalMatchesAutomatonRow.holds Try.pinned (OpenSpec.ofChange fnPlainDecimalMatchesAutomatonSpec)

/-- ITS FALSE NEIGHBOUR: 'it returns false'. Refute it at one input. -/
def fnPlainDecimalMatchesAutomatonWrong : ChangeSpec := { name := "fnPlainDecimalMatchesAutomaton", fn := fun _ => fun
  | [d] => { results := [.lit (.bool false)], args := [d] }
  | _ => none }
def FnPlainDecimalMatchesAutomatonWrongFalsely : Prop := fnPlainDecimalMatchesAutomatonRow.holds Try.pinned (OpenSpec.ofChange fnPlainDecimalMatchesAutomatonWrong)

/-- 'zzlaws_pkg_participant_b1.FnPlainDecimalAgreesWithWholeText': WHATEVER THE INPUT: true; the input reads as it did. -/
def fnPlainDecimalAgreesWithWholeTextSpec : ChangeSpec := { name := "fnPlainDecimalAgreesWithWholeText", fn := fun _ => fun
  | [d] => { results := [.lit (.bool true)], args := [d] }
  | _ => none }
def fnPlainDecimalAgreesWithWholeTextRow : OpenClaim := { program := "qxb6604287a", sum := "e241fc9c3d6fd8d02ac947053959bf9312f8042309f9b7db943d64058e57495f", func := "example.com/vestline/vestline/zzlaws_pkg_participant_b1.FnPlainDecimalAgreesWithWholeText", spec := "fnPlainDecimalAgreesWithWholeText", apart := false }
def FnPlainDecimalAgreesWithWholeTextSaid : Prop := fnPlainDecimalAgreesWithWholeTextRow.holds Try.pinned (OpenSpec.ofChange fnPlainDecimalAgreesWithWholeTextSpec)

/-- ITS FALSE NEIGHBOUR: 'it returns false'. Refute it at one input. -/
def fnPlainDecimalAgreesWithWholeTextWrong : ChangeSpec := { name := "fnPlainDecimalAgreesWithWholeText", fn := fun _ => fun
  | [d] => { results := [.lit (.bool false)], args := [d] }
  | _ => none }
def FnPlainDecimalAgreesWithWholeTextWrongFalsely : Prop := fnPlainDecimalAgreesWithWholeTextRow.holds Try.pinned (OpenSpec.ofChange fnPlainDecimalAgreesWithWholeTextWrong)

end Rows
end Go.Proofs.Qxb6604287a
