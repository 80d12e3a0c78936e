/-
  SMALL WORDS OF THE SEAT.
-/
import Derived.Test.Qxb6600663aRows
import Derived.WalkKit
import Derived.WalkSpells
import Derived.WalkLawsBesides
import Derived.Deep.MidRow
import Derived.BigQuiet
import Derived.Deep.QuietTactic
import Derived.Deep.LoopGhost
import Derived.StillTailTactics
namespace Go.Proofs.Qxb6600663a
open Go.RowKit

theorem hid {p : Prop} (h : p) : Hid p := h

/-- The claim behind a variable: the walk's simp cannot turn it. -/
theorem hideR {P : Program} {f : FuncId} {args : Array Value} {w : World} {R : Ending → World → Prop} (h : ∀ R' : Ending → World → Prop, Hid (∀ e w', R e w' → R' e w') → Calls P f args w R') : Calls P f args w R :=
  h R (fun _ _ q => q)

theorem Try.mixed : Try.prog.follows .mixedOrders = true := by kernel_rfl

end Go.Proofs.Qxb6600663a
