/-
  No cell of these rows narrows 'for every input' (looked for: loops, veiled, ifaces, maps, wideKeys, modest, calm, conditions, laid).
  DERIVED. THE GIVEN ROWS OF THIS SEAT. 7 by the template 'for every input the law returns true; each argument reads behind the call as it read before'; 0 by the template 'total and deterministic' (their statements: Qxb6607685aTotals.lean).
  GIVEN WITH THE SEED: the statements are not yours to turn. If you find one false, say at which input.
  Laid BY PROGRAM, IN A SANDBOX (cutbox-rows.mjs): the forced cells as the released guide's own fill.sh prints them over the translation 8824ef721e9ea8a5… (all of the seat's roots in one cut). By AI agents, Wed Nov 11 2026. No macro, syntax, notation, axiom, sorry.
-/
import Derived.Test.Qxb6607685aChecked
import GoSem.Claim
import GoSem.ClaimJoined
import GoSem.ClaimMapViews
import Derived.JoinedTies
import Derived.KernelRfl
namespace Go.Proofs.Qxb6607685a
/- THE CELL 'sum', in the pinned program and in every row, IS THE sha256 OF THE DUMP (.gsa) THAT Qxb6607685aProg.lean LOADS. Nothing in Lean hashes anything: it is a label: what it is worth is what the hold of that sum in a sandbox is worth. -/
noncomputable def Try.pinned : Pinned := { name := "qxb6607685a", sum := "8824ef721e9ea8a56d83d7b657b4b660d435615314f74b6a7ef57a6feccbebd7", checked := Try.checked }
namespace Rows
def none {H : Type} : Left H := { results := [], args := [] }

/-- 'zzlaws_root_b1.FnPushStacksEntriesNewestFirst': WHATEVER THE INPUT: true; the input reads as it did. -/
def fnPushStacksEntriesNewestFirstSpec : ChangeSpec := { name := "fnPushStacksEntriesNewestFirst", fn := fun _ => fun
  | [d1, d2, d3] => { results := [.lit (.bool true)], args := [d1, d2, d3] }
  | _ => none }
def fnPushStacksEntriesNewestFirstRow : OpenClaim := { program := "qxb6607685a", sum := "8824ef721e9ea8a56d83d7b657b4b660d435615314f74b6a7ef57a6feccbebd7", func := "example.com/grantline/grantline/zzlaws_root_b1.FnPushStacksEntriesNewestFirst", spec := "fnPushStacksEntriesNewestFirst", plainKeys := false, apart := false }
def FnPushStacksEntriesNewestFirstSaid : Prop := fnPushStacksEntriesNewestFirstRow.holds Try.pinned (OpenSpec.ofChange fnPushStacksEntriesNewestFirstSpec)

/-- ITS FALSE NEIGHBOUR: 'it returns false'. Refute it at one input. -/
def fnPushStacksEntriesNewestFirstWrong : ChangeSpec := { name := "fnPushStacksEntriesNewestFirst", fn := fun _ => fun
  | [d1, d2, d3] => { results := [.lit (.bool false)], args := [d1, d2, d3] }
  | _ => none }
def FnPushStacksEntriesNewestFirstWrongFalsely : Prop := fnPushStacksEntriesNewestFirstRow.holds Try.pinned (OpenSpec.ofChange fnPushStacksEntriesNewestFirstWrong)

/-- 'zzlaws_root_b1.FnPushKeepsEveryListIntact': WHATEVER THE INPUT: true; the input reads as it did. -/
def fnPushKeepsEveryListIntactSpec : ChangeSpec := { name := "fnPushKeepsEveryListIntact", fn := fun _ => fun
  | [d] => { results := [.lit (.bool true)], args := [d] }
  | _ => none }
def fnPushKeepsEveryListIntactRow : OpenClaim := { program := "qxb6607685a", sum := "8824ef721e9ea8a56d83d7b657b4b660d435615314f74b6a7ef57a6feccbebd7", func := "example.com/grantline/grantline/zzlaws_root_b1.FnPushKeepsEveryListIntact", spec := "fnPushKeepsEveryListIntact", plainKeys := false, apart := false }
def FnPushKeepsEveryListIntactSaid : Prop := fnPushKeepsEveryListIntactRow.holds Try.pinned (OpenSpec.ofChange fnPushKeepsEveryListIntactSpec)

/-- ITS FALSE NEIGHBOUR: 'it returns false'. Refute it at one input. -/
def fnPushKeepsEveryListIntactWrong : ChangeSpec := { name := "fnPushKeepsEveryListIntact", fn := fun _ => fun
  | [d] => { results := [.lit (.bool false)], args := [d] }
  | _ => none }
def FnPushKeepsEveryListIntactWrongFalsely : Prop := fnPushKeepsEveryListIntactRow.holds Try.pinned (OpenSpec.ofChange fnPushKeepsEveryListIntactWrong)

/-- 'zzlaws_root_b1.FnNumbersResultIsFresh': WHATEVER THE INPUT: true; the input reads as it did. -/
def fnNumbersResultIsFreshSpec : ChangeSpec := { name := "fnNumbersResultIsFresh", fn := fun _ => fun
  | [d] => { results := [.lit (.bool true)], args := [d] }
  | _ => none }
def fnNumbersResultIsFreshRow : OpenClaim := { program := "qxb6607685a", sum := "8824ef721e9ea8a56d83d7b657b4b660d435615314f74b6a7ef57a6feccbebd7", func := "example.com/grantline/grantline/zzlaws_root_b1.FnNumbersResultIsFresh", spec := "fnNumbersResultIsFresh", plainKeys := false, apart := false }
def FnNumbersResultIsFreshSaid : Prop := fnNumbersResultIsFreshRow.holds Try.pinned (OpenSpec.ofChange fnNumbersResultIsFreshSpec)

/-- ITS FALSE NEIGHBOUR: 'it returns false'. Refute it at one input. -/
def fnNumbersResultIsFreshWrong : ChangeSpec := { name := "fnNumbersResultIsFresh", fn := fun _ => fun
  | [d] => { results := [.lit (.bool false)], args := [d] }
  | _ => none }
def FnNumbersResultIsFreshWrongFalsely : Prop := fnNumbersResultIsFreshRow.holds Try.pinned (OpenSpec.ofChange fnNumbersResultIsFreshWrong)

/-- 'zzlaws_root_b1.FnTargetOfFindsFiledNames': WHATEVER THE INPUT: true; the input reads as it did. -/
def fnTargetOfFindsFiledNamesSpec : ChangeSpec := { name := "fnTargetOfFindsFiledNames", fn := fun _ => fun
  | [d1, d2, d3, d4] => { results := [.lit (.bool true)], args := [d1, d2, d3, d4] }
  | _ => none }
def fnTargetOfFindsFiledNamesRow : OpenClaim := { program := "qxb6607685a", sum := "8824ef721e9ea8a56d83d7b657b4b660d435615314f74b6a7ef57a6feccbebd7", func := "example.com/grantline/grantline/zzlaws_root_b1.FnTargetOfFindsFiledNames", spec := "fnTargetOfFindsFiledNames", plainKeys := false, apart := false }
def FnTargetOfFindsFiledNamesSaid : Prop := fnTargetOfFindsFiledNamesRow.holds Try.pinned (OpenSpec.ofChange fnTargetOfFindsFiledNamesSpec)

/-- ITS FALSE NEIGHBOUR: 'it returns false'. Refute it at one input. -/
def fnTargetOfFindsFiledNamesWrong : ChangeSpec := { name := "fnTargetOfFindsFiledNames", fn := fun _ => fun
  | [d1, d2, d3, d4] => { results := [.lit (.bool false)], args := [d1, d2, d3, d4] }
  | _ => none }
def FnTargetOfFindsFiledNamesWrongFalsely : Prop := fnTargetOfFindsFiledNamesRow.holds Try.pinned (OpenSpec.ofChange fnTargetOfFindsFiledNamesWrong)

/-- 'zzlaws_root_b1.FnTargetOfAgreesWithFiling': WHATEVER THE INPUT: true; the input reads as it did. -/
def fnTargetOfAgreesWithFilingSpec : ChangeSpec := { name := "fnTargetOfAgreesWithFiling", fn := fun _ => fun
  | [d1, d2] => { results := [.lit (.bool true)], args := [d1, d2] }
  | _ => none }
def fnTargetOfAgreesWithFilingRow : OpenClaim := { program := "qxb6607685a", sum := "8824ef721e9ea8a56d83d7b657b4b660d435615314f74b6a7ef57a6feccbebd7", func := "example.com/grantline/grantline/zzlaws_root_b1.FnTargetOfAgreesWithFiling", spec := "fnTargetOfAgreesWithFiling", plainKeys := false, apart := false }
def FnTargetOfAgreesWithFilingSaid : Prop := fnTargetOfAgreesWithFilingRow.holds Try.pinned (OpenSpec.ofChange fnTargetOfAgreesWithFilingSpec)

/-- ITS FALSE NEIGHBOUR: 'it returns false'. Refute it at one input. -/
def fnTargetOfAgreesWithFilingWrong : ChangeSpec := { name := "fnTargetOfAgreesWithFiling", fn := fun _ => fun
  | [d1, d2] => { results := [.lit (.bool false)], args := [d1, d2] }
  | _ => none }
def FnTargetOfAgreesWithFilingWrongFalsely : Prop := fnTargetOfAgreesWithFilingRow.holds Try.pinned (OpenSpec.ofChange fnTargetOfAgreesWithFilingWrong)

/-- 'zzlaws_root_b1.FnNumberOfNumbersByFirstAppearance': WHATEVER THE INPUT: true; the input reads as it did. -/
def fnNumberOfNumbersByFirstAppearanceSpec : ChangeSpec := { name := "fnNumberOfNumbersByFirstAppearance", fn := fun _ => fun
  | [d] => { results := [.lit (.bool true)], args := [d] }
  | _ => none }
def fnNumberOfNumbersByFirstAppearanceRow : OpenClaim := { program := "qxb6607685a", sum := "8824ef721e9ea8a56d83d7b657b4b660d435615314f74b6a7ef57a6feccbebd7", func := "example.com/grantline/grantline/zzlaws_root_b1.FnNumberOfNumbersByFirstAppearance", spec := "fnNumberOfNumbersByFirstAppearance", plainKeys := false, apart := false }
def FnNumberOfNumbersByFirstAppearanceSaid : Prop := fnNumberOfNumbersByFirstAppearanceRow.holds Try.pinned (OpenSpec.ofChange fnNumberOfNumbersByFirstAppearanceSpec)

/-- ITS FALSE NEIGHBOUR: 'it returns false'. Refute it at one input. -/
def fnNumberOfNumbersByFirstAppearanceWrong : ChangeSpec := { name := "fnNumberOfNumbersByFirstAppearance", fn := fun _ => fun
  | [d] => { results := [.lit (.bool false)], args := [d] }
  | _ => none }
def FnNumberOfNumbersByFirstAppearanceWrongFalsely : Prop := fnNumberOfNumbersByFirstAppearanceRow.holds Try.pinned (OpenSpec.ofChange fnNumberOfNumbersByFirstAppearanceWrong)

/-- 'zzlaws_root_b1.FnNumberOfRoundTripsThroughNameTable': WHATEVER THE INPUT: true; the input reads as it did. -/
def fnNumberOfRoundTripsThroughNameTableSpec : ChangeSpec := { name := "fnNumberOfRoundTripsThroughNameTable", fn := fun _ => fun
  | [d] => { results := [.lit (.bool true)], args := [d] }
  | _ => none }
def fnNumberOfRoundTripsThroughNameTableRow : OpenClaim := { program := "qxb6607685a", sum := "8824ef721e9ea8a56d83d7b657b4b660d435615314f74b6a7ef57a6feccbebd7", func := "example.com/grantline/grantline/zzlaws_root_b1.FnNumberOfRoundTripsThroughNameTable", spec := "fnNumberOfRoundTripsThroughNameTable", plainKeys := false, apart := false }
def FnNumberOfRoundTripsThroughNameTableSaid : Prop := fnNumberOfRoundTripsThroughNameTableRow.holds Try.pinned (OpenSpec.ofChange fnNumberOfRoundTripsThroughNameTableSpec)

/-- ITS FALSE NEIGHBOUR: 'it returns false'. Refute it at one input. -/
def fnNumberOfRoundTripsThroughNameTableWrong : ChangeSpec := { name := "fnNumberOfRoundTripsThroughNameTable", fn := fun _ => fun
  | [d] => { results := [.lit (.bool false)], args := [d] }
  | _ => none }
def FnNumberOfRoundTripsThroughNameTableWrongFalsely : Prop := fnNumberOfRoundTripsThroughNameTableRow.holds Try.pinned (OpenSpec.ofChange fnNumberOfRoundTripsThroughNameTableWrong)

end Rows
end Go.Proofs.Qxb6607685a
