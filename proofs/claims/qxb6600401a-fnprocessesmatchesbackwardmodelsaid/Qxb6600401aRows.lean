/-
  No cell of these rows narrows 'for every input' (looked for: loops, veiled, ifaces, maps, wideKeys, modest, calm, conditions, laid).
  DERIVED. THE GIVEN ROWS OF THIS SEAT. 3 by the template 'for every input the law returns true; each argument reads behind the call as it read before'; 0 by the template 'total and deterministic' (their statements: Qxb6600401aTotals.lean).
  GIVEN WITH THE SEED: the statements are not yours to turn. If you find one false, say at which input.
  Laid BY PROGRAM, IN A SANDBOX (cutbox-rows.mjs): the forced cells as the released guide's own fill.sh prints them over the translation 7695724417580758… (all of the seat's roots in one cut). By AI agents, Wed Nov 11 2026. No macro, syntax, notation, axiom, sorry.
-/
import Derived.Test.Qxb6600401aChecked
import GoSem.Claim
import GoSem.ClaimJoined
import GoSem.ClaimMapViews
import Derived.JoinedTies
import Derived.KernelRfl
namespace Go.Proofs.Qxb6600401a
/- THE CELL 'sum', in the pinned program and in every row, IS THE sha256 OF THE DUMP (.gsa) THAT Qxb6600401aProg.lean LOADS. Nothing in Lean hashes anything: it is a label: what it is worth is what the hold of that sum in a sandbox is worth. -/
noncomputable def Try.pinned : Pinned := { name := "qxb6600401a", sum := "7695724417580758444ce53b4f3c3271cde50919dfd52e869308581d51bec78a", checked := Try.checked }
namespace Rows
def none {H : Type} : Left H := { results := [], args := [] }

/-- 'zzlaws_internal_record_b1.FnProcessesMatchesBackwardModel': WHATEVER THE INPUT: true; the input reads as it did. -/
def fnProcessesMatchesBackwardModelSpec : ChangeSpec := { name := "fnProcessesMatchesBackwardModel", fn := fun _ => fun
  | [d1, d2] => { results := [.lit (.bool true)], args := [d1, d2] }
  | _ => none }
def fnProcessesMatchesBackwardModelRow : OpenClaim := { program := "qxb6600401a", sum := "7695724417580758444ce53b4f3c3271cde50919dfd52e869308581d51bec78a", func := "example.com/nameless/nameless/zzlaws_internal_record_b1.FnProcessesMatchesBackwardModel", spec := "fnProcessesMatchesBackwardModel", apart := false }
def FnProcessesMatchesBackwardModelSaid : Prop := fnProcessesMatchesBackwardModelRow.holds Try.pinned (OpenSpec.ofChange fnProcessesMatchesBackwardModelSpec)

/-- ITS FALSE NEIGHBOUR: 'it returns false'. Refute it at one input. -/
def fnProcessesMatchesBackwardModelWrong : ChangeSpec := { name := "fnProcessesMatchesBackwardModel", fn := fun _ => fun
  | [d1, d2] => { results := [.lit (.bool false)], args := [d1, d2] }
  | _ => none }
def FnProcessesMatchesBackwardModelWrongFalsely : Prop := fnProcessesMatchesBackwardModelRow.holds Try.pinned (OpenSpec.ofChange fnProcessesMatchesBackwardModelWrong)

/-- 'zzlaws_internal_record_b1.FnProcessesIgnoresInterleaving': WHATEVER THE INPUT: true; the input reads as it did. -/
def fnProcessesIgnoresInterleavingSpec : ChangeSpec := { name := "fnProcessesIgnoresInterleaving", fn := fun _ => fun
  | [d1, d2] => { results := [.lit (.bool true)], args := [d1, d2] }
  | _ => none }
def fnProcessesIgnoresInterleavingRow : OpenClaim := { program := "qxb6600401a", sum := "7695724417580758444ce53b4f3c3271cde50919dfd52e869308581d51bec78a", func := "example.com/nameless/nameless/zzlaws_internal_record_b1.FnProcessesIgnoresInterleaving", spec := "fnProcessesIgnoresInterleaving", apart := false }
def FnProcessesIgnoresInterleavingSaid : Prop := fnProcessesIgnoresInterleavingRow.holds Try.pinned (OpenSpec.ofChange fnProcessesIgnoresInterleavingSpec)

/-- ITS FALSE NEIGHBOUR: 'it returns false'. Refute it at one input. -/
def fnProcessesIgnoresInterleavingWrong : ChangeSpec := { name := "fnProcessesIgnoresInterleaving", fn := fun _ => fun
  | [d1, d2] => { results := [.lit (.bool false)], args := [d1, d2] }
  | _ => none }
def FnProcessesIgnoresInterleavingWrongFalsely : Prop := fnProcessesIgnoresInterleavingRow.holds Try.pinned (OpenSpec.ofChange fnProcessesIgnoresInterleavingWrong)

/-- 'zzlaws_internal_record_b1.FnProcessesRecoverClearsLife': WHATEVER THE INPUT: true; the input reads as it did. -/
def fnProcessesRecoverClearsLifeSpec : ChangeSpec := { name := "fnProcessesRecoverClearsLife", fn := fun _ => fun
  | [d1, d2, d3] => { results := [.lit (.bool true)], args := [d1, d2, d3] }
  | _ => none }
def fnProcessesRecoverClearsLifeRow : OpenClaim := { program := "qxb6600401a", sum := "7695724417580758444ce53b4f3c3271cde50919dfd52e869308581d51bec78a", func := "example.com/nameless/nameless/zzlaws_internal_record_b1.FnProcessesRecoverClearsLife", spec := "fnProcessesRecoverClearsLife", apart := false }
def FnProcessesRecoverClearsLifeSaid : Prop := fnProcessesRecoverClearsLifeRow.holds Try.pinned (OpenSpec.ofChange fnProcessesRecoverClearsLifeSpec)

/-- ITS FALSE NEIGHBOUR: 'it returns false'. Refute it at one input. -/
def fnProcessesRecoverClearsLifeWrong : ChangeSpec := { name := "fnProcessesRecoverClearsLife", fn := fun _ => fun
  | [d1, d2, d3] => { results := [.lit (.bool false)], args := [d1, d2, d3] }
  | _ => none }
def FnProcessesRecoverClearsLifeWrongFalsely : Prop := fnProcessesRecoverClearsLifeRow.holds Try.pinned (OpenSpec.ofChange fnProcessesRecoverClearsLifeWrong)

end Rows
end Go.Proofs.Qxb6600401a
