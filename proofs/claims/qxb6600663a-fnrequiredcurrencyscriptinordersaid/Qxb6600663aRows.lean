/-
  No cell of these rows narrows 'for every input' (looked for: loops, veiled, ifaces, maps, wideKeys, modest, calm, conditions, laid).
  DERIVED. THE GIVEN ROWS OF THIS SEAT. 7 by the template 'for every input the law returns true; each argument reads behind the call as it read before'; 0 by the template 'total and deterministic' (their statements: Qxb6600663aTotals.lean).
  GIVEN WITH THE SEED: the statements are not yours to turn. If you find one false, say at which input.
  Laid BY PROGRAM, IN A SANDBOX (cutbox-rows.mjs): the forced cells as the released guide's own fill.sh prints them over the translation 5b7444017b8c34ac… (all of the seat's roots in one cut). By AI agents, Wed Nov 11 2026. No macro, syntax, notation, axiom, sorry.
-/
import Derived.Test.Qxb6600663aChecked
import GoSem.Claim
import GoSem.ClaimJoined
import GoSem.ClaimMapViews
import Derived.JoinedTies
import Derived.KernelRfl
namespace Go.Proofs.Qxb6600663a
/- THE CELL 'sum', in the pinned program and in every row, IS THE sha256 OF THE DUMP (.gsa) THAT Qxb6600663aProg.lean LOADS. Nothing in Lean hashes anything: it is a label: what it is worth is what the hold of that sum in a sandbox is worth. -/
noncomputable def Try.pinned : Pinned := { name := "qxb6600663a", sum := "5b7444017b8c34ac319cb5017b5237564740b41848bc35c6731bf414b4766c9e", checked := Try.checked }
namespace Rows
def none {H : Type} : Left H := { results := [], args := [] }

/-- 'zzlaws_internal_validation_b1.FnUUIDMatchesModel': WHATEVER THE INPUT: true; the input reads as it did. -/
def fnUUIDMatchesModelSpec : ChangeSpec := { name := "fnUUIDMatchesModel", fn := fun _ => fun
  | [d] => { results := [.lit (.bool true)], args := [d] }
  | _ => none }
def fnUUIDMatchesModelRow : OpenClaim := { program := "qxb6600663a", sum := "5b7444017b8c34ac319cb5017b5237564740b41848bc35c6731bf414b4766c9e", func := "example.com/tillhouse/tillhouse/zzlaws_internal_validation_b1.FnUUIDMatchesModel", spec := "fnUUIDMatchesModel", apart := false }
def FnUUIDMatchesModelSaid : Prop := fnUUIDMatchesModelRow.holds Try.pinned (OpenSpec.ofChange fnUUIDMatchesModelSpec)

/-- ITS FALSE NEIGHBOUR: 'it returns false'. Refute it at one input. -/
def fnUUIDMatchesModelWrong : ChangeSpec := { name := "fnUUIDMatchesModel", fn := fun _ => fun
  | [d] => { results := [.lit (.bool false)], args := [d] }
  | _ => none }
def FnUUIDMatchesModelWrongFalsely : Prop := fnUUIDMatchesModelRow.holds Try.pinned (OpenSpec.ofChange fnUUIDMatchesModelWrong)

/-- 'zzlaws_internal_validation_b1.FnUUIDAcceptsEveryFormatted': WHATEVER THE INPUT: true; the input reads as it did. -/
def fnUUIDAcceptsEveryFormattedSpec : ChangeSpec := { name := "fnUUIDAcceptsEveryFormatted", fn := fun _ => fun
  | [d1, d2] => { results := [.lit (.bool true)], args := [d1, d2] }
  | _ => none }
def fnUUIDAcceptsEveryFormattedRow : OpenClaim := { program := "qxb6600663a", sum := "5b7444017b8c34ac319cb5017b5237564740b41848bc35c6731bf414b4766c9e", func := "example.com/tillhouse/tillhouse/zzlaws_internal_validation_b1.FnUUIDAcceptsEveryFormatted", spec := "fnUUIDAcceptsEveryFormatted", apart := false }
def FnUUIDAcceptsEveryFormattedSaid : Prop := fnUUIDAcceptsEveryFormattedRow.holds Try.pinned (OpenSpec.ofChange fnUUIDAcceptsEveryFormattedSpec)

/-- ITS FALSE NEIGHBOUR: 'it returns false'. Refute it at one input. -/
def fnUUIDAcceptsEveryFormattedWrong : ChangeSpec := { name := "fnUUIDAcceptsEveryFormatted", fn := fun _ => fun
  | [d1, d2] => { results := [.lit (.bool false)], args := [d1, d2] }
  | _ => none }
def FnUUIDAcceptsEveryFormattedWrongFalsely : Prop := fnUUIDAcceptsEveryFormattedRow.holds Try.pinned (OpenSpec.ofChange fnUUIDAcceptsEveryFormattedWrong)

/-- 'zzlaws_internal_validation_b1.FnUUIDCaseInsensitive': WHATEVER THE INPUT: true; the input reads as it did. -/
def fnUUIDCaseInsensitiveSpec : ChangeSpec := { name := "fnUUIDCaseInsensitive", fn := fun _ => fun
  | [d] => { results := [.lit (.bool true)], args := [d] }
  | _ => none }
def fnUUIDCaseInsensitiveRow : OpenClaim := { program := "qxb6600663a", sum := "5b7444017b8c34ac319cb5017b5237564740b41848bc35c6731bf414b4766c9e", func := "example.com/tillhouse/tillhouse/zzlaws_internal_validation_b1.FnUUIDCaseInsensitive", spec := "fnUUIDCaseInsensitive", apart := false }
def FnUUIDCaseInsensitiveSaid : Prop := fnUUIDCaseInsensitiveRow.holds Try.pinned (OpenSpec.ofChange fnUUIDCaseInsensitiveSpec)

/-- ITS FALSE NEIGHBOUR: 'it returns false'. Refute it at one input. -/
def fnUUIDCaseInsensitiveWrong : ChangeSpec := { name := "fnUUIDCaseInsensitive", fn := fun _ => fun
  | [d] => { results := [.lit (.bool false)], args := [d] }
  | _ => none }
def FnUUIDCaseInsensitiveWrongFalsely : Prop := fnUUIDCaseInsensitiveRow.holds Try.pinned (OpenSpec.ofChange fnUUIDCaseInsensitiveWrong)

/-- 'zzlaws_internal_validation_b1.FnCurrencyMatchesModel': WHATEVER THE INPUT: true; the input reads as it did. -/
def fnCurrencyMatchesModelSpec : ChangeSpec := { name := "fnCurrencyMatchesModel", fn := fun _ => fun
  | [d] => { results := [.lit (.bool true)], args := [d] }
  | _ => none }
def fnCurrencyMatchesModelRow : OpenClaim := { program := "qxb6600663a", sum := "5b7444017b8c34ac319cb5017b5237564740b41848bc35c6731bf414b4766c9e", func := "example.com/tillhouse/tillhouse/zzlaws_internal_validation_b1.FnCurrencyMatchesModel", spec := "fnCurrencyMatchesModel", apart := false }
def FnCurrencyMatchesModelSaid : Prop := fnCurrencyMatchesModelRow.holds Try.pinned (OpenSpec.ofChange fnCurrencyMatchesModelSpec)

/-- ITS FALSE NEIGHBOUR: 'it returns false'. Refute it at one input. -/
def fnCurrencyMatchesModelWrong : ChangeSpec := { name := "fnCurrencyMatchesModel", fn := fun _ => fun
  | [d] => { results := [.lit (.bool false)], args := [d] }
  | _ => none }
def FnCurrencyMatchesModelWrongFalsely : Prop := fnCurrencyMatchesModelRow.holds Try.pinned (OpenSpec.ofChange fnCurrencyMatchesModelWrong)

/-- 'zzlaws_internal_validation_b1.FnCurrencyAcceptsEveryCode': WHATEVER THE INPUT: true; the input reads as it did. -/
def fnCurrencyAcceptsEveryCodeSpec : ChangeSpec := { name := "fnCurrencyAcceptsEveryCode", fn := fun _ => fun
  | [d1, d2, d3] => { results := [.lit (.bool true)], args := [d1, d2, d3] }
  | _ => none }
def fnCurrencyAcceptsEveryCodeRow : OpenClaim := { program := "qxb6600663a", sum := "5b7444017b8c34ac319cb5017b5237564740b41848bc35c6731bf414b4766c9e", func := "example.com/tillhouse/tillhouse/zzlaws_internal_validation_b1.FnCurrencyAcceptsEveryCode", spec := "fnCurrencyAcceptsEveryCode", apart := false }
def FnCurrencyAcceptsEveryCodeSaid : Prop := fnCurrencyAcceptsEveryCodeRow.holds Try.pinned (OpenSpec.ofChange fnCurrencyAcceptsEveryCodeSpec)

/-- ITS FALSE NEIGHBOUR: 'it returns false'. Refute it at one input. -/
def fnCurrencyAcceptsEveryCodeWrong : ChangeSpec := { name := "fnCurrencyAcceptsEveryCode", fn := fun _ => fun
  | [d1, d2, d3] => { results := [.lit (.bool false)], args := [d1, d2, d3] }
  | _ => none }
def FnCurrencyAcceptsEveryCodeWrongFalsely : Prop := fnCurrencyAcceptsEveryCodeRow.holds Try.pinned (OpenSpec.ofChange fnCurrencyAcceptsEveryCodeWrong)

/-- 'zzlaws_internal_validation_b1.FnRequiredCurrencyCaseTable': WHATEVER THE INPUT: true; the input reads as it did. -/
def fnRequiredCurrencyCaseTableSpec : ChangeSpec := { name := "fnRequiredCurrencyCaseTable", fn := fun _ => fun
  | [d1, d2, d3, d4, d5, d6] => { results := [.lit (.bool true)], args := [d1, d2, d3, d4, d5, d6] }
  | _ => none }
def fnRequiredCurrencyCaseTableRow : OpenClaim := { program := "qxb6600663a", sum := "5b7444017b8c34ac319cb5017b5237564740b41848bc35c6731bf414b4766c9e", func := "example.com/tillhouse/tillhouse/zzlaws_internal_validation_b1.FnRequiredCurrencyCaseTable", spec := "fnRequiredCurrencyCaseTable", apart := false }
def FnRequiredCurrencyCaseTableSaid : Prop := fnRequiredCurrencyCaseTableRow.holds Try.pinned (OpenSpec.ofChange fnRequiredCurrencyCaseTableSpec)

/-- ITS FALSE NEIGHBOUR: 'it returns false'. Refute it at one input. -/
def fnRequiredCurrencyCaseTableWrong : ChangeSpec := { name := "fnRequiredCurrencyCaseTable", fn := fun _ => fun
  | [d1, d2, d3, d4, d5, d6] => { results := [.lit (.bool false)], args := [d1, d2, d3, d4, d5, d6] }
  | _ => none }
def FnRequiredCurrencyCaseTableWrongFalsely : Prop := fnRequiredCurrencyCaseTableRow.holds Try.pinned (OpenSpec.ofChange fnRequiredCurrencyCaseTableWrong)

/-- 'zzlaws_internal_validation_b1.FnRequiredCurrencyScriptInOrder': WHATEVER THE INPUT: true; the input reads as it did. -/
def fnRequiredCurrencyScriptInOrderSpec : ChangeSpec := { name := "fnRequiredCurrencyScriptInOrder", fn := fun _ => fun
  | [d1, d2, d3] => { results := [.lit (.bool true)], args := [d1, d2, d3] }
  | _ => none }
def fnRequiredCurrencyScriptInOrderRow : OpenClaim := { program := "qxb6600663a", sum := "5b7444017b8c34ac319cb5017b5237564740b41848bc35c6731bf414b4766c9e", func := "example.com/tillhouse/tillhouse/zzlaws_internal_validation_b1.FnRequiredCurrencyScriptInOrder", spec := "fnRequiredCurrencyScriptInOrder", apart := false }
def FnRequiredCurrencyScriptInOrderSaid : Prop := fnRequiredCurrencyScriptInOrderRow.holds Try.pinned (OpenSpec.ofChange fnRequiredCurrencyScriptInOrderSpec)

/-- ITS FALSE NEIGHBOUR: 'it returns false'. Refute it at one input. -/
def fnRequiredCurrencyScriptInOrderWrong : ChangeSpec := { name := "fnRequiredCurrencyScriptInOrder", fn := fun _ => fun
  | [d1, d2, d3] => { results := [.lit (.bool false)], args := [d1, d2, d3] }
  | _ => none }
def FnRequiredCurrencyScriptInOrderWrongFalsely : Prop := fnRequiredCurrencyScriptInOrderRow.holds Try.pinned (OpenSpec.ofChange fnRequiredCurrencyScriptInOrderWrong)

end Rows
end Go.Proofs.Qxb6600663a
