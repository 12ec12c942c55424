/-
  No cell of these rows narrows 'for every input' (looked for: loops, veiled, ifaces, maps, wideKeys, modest, calm, conditions, laid).
  DERIVED. THE GIVEN ROWS OF THIS SEAT. 4 by the template 'for every input the law returns true; each argument reads behind the call as it read before'; 0 by the template 'total and deterministic' (their statements: Qxb6605987aTotals.lean).
  GIVEN WITH THE SEED: the statements are not yours to turn. If you find one false, say at which input.
  Laid BY PROGRAM, IN A SANDBOX (cutbox-rows.mjs): the forced cells as the released guide's own fill.sh prints them over the translation b420d6aba84d22c2… (all of the seat's roots in one cut). By AI agents, Wed Nov 11 2026. No macro, syntax, notation, axiom, sorry.
-/
import Derived.Test.Qxb6605987aChecked
import GoSem.Claim
import GoSem.ClaimJoined
import GoSem.ClaimMapViews
import Derived.JoinedTies
import Derived.KernelRfl
namespace Go.Proofs.Qxb6605987a
/- THE CELL 'sum', in the pinned program and in every row, IS THE sha256 OF THE DUMP (.gsa) THAT Qxb6605987aProg.lean LOADS. Nothing in Lean hashes anything: it is a label: what it is worth is what the hold of that sum in a sandbox is worth. -/
noncomputable def Try.pinned : Pinned := { name := "qxb6605987a", sum := "b420d6aba84d22c2ac3873fcc9d44cc3a16d3d0fc91394774de68eae9ad8a364", checked := Try.checked }
namespace Rows
def none {H : Type} : Left H := { results := [], args := [] }

/-- 'zzlaws_internal_document_b1.FnKeyOfReadsItsSpanOfTheText': WHATEVER THE INPUT: true; the input reads as it did. -/
def fnKeyOfReadsItsSpanOfTheTextSpec : ChangeSpec := { name := "fnKeyOfReadsItsSpanOfTheText", fn := fun _ => fun
  | [d1, d2, d3, d4] => { results := [.lit (.bool true)], args := [d1, d2, d3, d4] }
  | _ => none }
def fnKeyOfReadsItsSpanOfTheTextRow : OpenClaim := { program := "qxb6605987a", sum := "b420d6aba84d22c2ac3873fcc9d44cc3a16d3d0fc91394774de68eae9ad8a364", func := "example.com/tranchery/tranchery/zzlaws_internal_document_b1.FnKeyOfReadsItsSpanOfTheText", spec := "fnKeyOfReadsItsSpanOfTheText", apart := false }
def FnKeyOfReadsItsSpanOfTheTextSaid : Prop := fnKeyOfReadsItsSpanOfTheTextRow.holds Try.pinned (OpenSpec.ofChange fnKeyOfReadsItsSpanOfTheTextSpec)

/-- ITS FALSE NEIGHBOUR: 'it returns false'. Refute it at one input. -/
def fnKeyOfReadsItsSpanOfTheTextWrong : ChangeSpec := { name := "fnKeyOfReadsItsSpanOfTheText", fn := fun _ => fun
  | [d1, d2, d3, d4] => { results := [.lit (.bool false)], args := [d1, d2, d3, d4] }
  | _ => none }
def FnKeyOfReadsItsSpanOfTheTextWrongFalsely : Prop := fnKeyOfReadsItsSpanOfTheTextRow.holds Try.pinned (OpenSpec.ofChange fnKeyOfReadsItsSpanOfTheTextWrong)

/-- 'zzlaws_internal_document_b1.FnKeyOfNamesTheKeyThatGivenFinds': WHATEVER THE INPUT: true; the input reads as it did. -/
def fnKeyOfNamesTheKeyThatGivenFindsSpec : ChangeSpec := { name := "fnKeyOfNamesTheKeyThatGivenFinds", fn := fun _ => fun
  | [d1, d2, d3, d4, d5, d6] => { results := [.lit (.bool true)], args := [d1, d2, d3, d4, d5, d6] }
  | _ => none }
def fnKeyOfNamesTheKeyThatGivenFindsRow : OpenClaim := { program := "qxb6605987a", sum := "b420d6aba84d22c2ac3873fcc9d44cc3a16d3d0fc91394774de68eae9ad8a364", func := "example.com/tranchery/tranchery/zzlaws_internal_document_b1.FnKeyOfNamesTheKeyThatGivenFinds", spec := "fnKeyOfNamesTheKeyThatGivenFinds", apart := false }
def FnKeyOfNamesTheKeyThatGivenFindsSaid : Prop := fnKeyOfNamesTheKeyThatGivenFindsRow.holds Try.pinned (OpenSpec.ofChange fnKeyOfNamesTheKeyThatGivenFindsSpec)

/-- ITS FALSE NEIGHBOUR: 'it returns false'. Refute it at one input. -/
def fnKeyOfNamesTheKeyThatGivenFindsWrong : ChangeSpec := { name := "fnKeyOfNamesTheKeyThatGivenFinds", fn := fun _ => fun
  | [d1, d2, d3, d4, d5, d6] => { results := [.lit (.bool false)], args := [d1, d2, d3, d4, d5, d6] }
  | _ => none }
def FnKeyOfNamesTheKeyThatGivenFindsWrongFalsely : Prop := fnKeyOfNamesTheKeyThatGivenFindsRow.holds Try.pinned (OpenSpec.ofChange fnKeyOfNamesTheKeyThatGivenFindsWrong)

/-- 'zzlaws_internal_document_b1.FnKeysListsEveryUntakenKeyInOrder': WHATEVER THE INPUT: true; the input reads as it did. -/
def fnKeysListsEveryUntakenKeyInOrderSpec : ChangeSpec := { name := "fnKeysListsEveryUntakenKeyInOrder", fn := fun _ => fun
  | [d1, d2, d3, d4, d5] => { results := [.lit (.bool true)], args := [d1, d2, d3, d4, d5] }
  | _ => none }
def fnKeysListsEveryUntakenKeyInOrderRow : OpenClaim := { program := "qxb6605987a", sum := "b420d6aba84d22c2ac3873fcc9d44cc3a16d3d0fc91394774de68eae9ad8a364", func := "example.com/tranchery/tranchery/zzlaws_internal_document_b1.FnKeysListsEveryUntakenKeyInOrder", spec := "fnKeysListsEveryUntakenKeyInOrder", recurses := true, apart := false }
def FnKeysListsEveryUntakenKeyInOrderSaid : Prop := fnKeysListsEveryUntakenKeyInOrderRow.holds Try.pinned (OpenSpec.ofChange fnKeysListsEveryUntakenKeyInOrderSpec)

/-- ITS FALSE NEIGHBOUR: 'it returns false'. Refute it at one input. -/
def fnKeysListsEveryUntakenKeyInOrderWrong : ChangeSpec := { name := "fnKeysListsEveryUntakenKeyInOrder", fn := fun _ => fun
  | [d1, d2, d3, d4, d5] => { results := [.lit (.bool false)], args := [d1, d2, d3, d4, d5] }
  | _ => none }
def FnKeysListsEveryUntakenKeyInOrderWrongFalsely : Prop := fnKeysListsEveryUntakenKeyInOrderRow.holds Try.pinned (OpenSpec.ofChange fnKeysListsEveryUntakenKeyInOrderWrong)

/-- 'zzlaws_internal_document_b1.FnKeysAgreeWithGiven': WHATEVER THE INPUT: true; the input reads as it did. -/
def fnKeysAgreeWithGivenSpec : ChangeSpec := { name := "fnKeysAgreeWithGiven", fn := fun _ => fun
  | [d1, d2, d3, d4, d5] => { results := [.lit (.bool true)], args := [d1, d2, d3, d4, d5] }
  | _ => none }
def fnKeysAgreeWithGivenRow : OpenClaim := { program := "qxb6605987a", sum := "b420d6aba84d22c2ac3873fcc9d44cc3a16d3d0fc91394774de68eae9ad8a364", func := "example.com/tranchery/tranchery/zzlaws_internal_document_b1.FnKeysAgreeWithGiven", spec := "fnKeysAgreeWithGiven", recurses := true, apart := false }
def FnKeysAgreeWithGivenSaid : Prop := fnKeysAgreeWithGivenRow.holds Try.pinned (OpenSpec.ofChange fnKeysAgreeWithGivenSpec)

/-- ITS FALSE NEIGHBOUR: 'it returns false'. Refute it at one input. -/
def fnKeysAgreeWithGivenWrong : ChangeSpec := { name := "fnKeysAgreeWithGiven", fn := fun _ => fun
  | [d1, d2, d3, d4, d5] => { results := [.lit (.bool false)], args := [d1, d2, d3, d4, d5] }
  | _ => none }
def FnKeysAgreeWithGivenWrongFalsely : Prop := fnKeysAgreeWithGivenRow.holds Try.pinned (OpenSpec.ofChange fnKeysAgreeWithGivenWrong)

end Rows
end Go.Proofs.Qxb6605987a
