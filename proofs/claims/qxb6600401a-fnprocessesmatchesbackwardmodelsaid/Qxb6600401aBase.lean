/-
  The data of the seat's laws, and how they lie in memory.
-/
import Derived.Test.Qxb6600401aRows
import Derived.WalkKit
import Derived.WalkSpells
import Derived.WalkLawsBesides
import Derived.Deep.MidRow
import Derived.BigQuiet
import Derived.Deep.QuietTactic
import Derived.Deep.LoopGhost
namespace Go.Proofs.Qxb6600401a
open Go.RowKit

/-- The plain data of one event. 'nl': its Trusted is nil. -/
structure Ev where
  t : Int
  proc : Int
  name : ByteArray
  kind : ByteArray
  unst : Bool
  nl : Bool
  tr : List ByteArray

/-- A slice of strings lies in w as the value v: nil (nl) or not; the strings ss; its cells lie in a block of which P holds. -/
def StrsAt (w : World) (P : Nat → Prop) (v : Value) (nl : Bool) (ss : List ByteArray) : Prop :=
  ∃ ao : Option Addr, ∃ cap : Nat, v = .slice ao ss.length cap ∧ ao.isNone = nl ∧
    ∀ j (h : j < ss.length), ∃ b o, ao = some ⟨b, o, none⟩ ∧ P b ∧ w.cell? ⟨b, o + j, none⟩ = some (.string ss[j])

/-- The six cells of an event whose Trusted is the value v. -/
abbrev evc (e : Ev) (v : Value) : List Value := [.int .i64 e.t, .int .i64 e.proc, .string e.name, .string e.kind, .bool e.unst, v]

/-- One event lies at an address. -/
def EvAt (w : World) (P : Nat → Prop) (b o : Nat) (e : Ev) : Prop := ∃ v, w.rangeAt b o (evc e v) ∧ StrsAt w P v e.nl e.tr

/-- The events of a slice lie in w. -/
def EvsAt (w : World) (P : Nat → Prop) (ao : Option Addr) (es : List Ev) : Prop :=
  ∀ i (h : i < es.length), ∃ b o, ao = some ⟨b, o, none⟩ ∧ EvAt w P b (o + i * 6) es[i]

theorem EvAt.cells {w : World} {P : Nat → Prop} {b o : Nat} {e : Ev} (h : EvAt w P b o e) :
    ∃ ao cap, w.rangeAt b o (evc e (.slice ao e.tr.length cap)) ∧ ao.isNone = e.nl ∧
      (∀ j (h : j < e.tr.length), ∃ b o, ao = some ⟨b, o, none⟩ ∧ P b ∧ w.cell? ⟨b, o + j, none⟩ = some (.string e.tr[j])) ∧
      w.cell? ⟨b, o, none⟩ = some (.int .i64 e.t) ∧ w.cell? ⟨b, o + 1, none⟩ = some (.int .i64 e.proc) ∧ w.cell? ⟨b, o + 2, none⟩ = some (.string e.name) ∧
      w.cell? ⟨b, o + 3, none⟩ = some (.string e.kind) ∧ w.cell? ⟨b, o + 4, none⟩ = some (.bool e.unst) ∧ w.cell? ⟨b, o + 5, none⟩ = some (.slice ao e.tr.length cap) := by
  obtain ⟨v, hr, ao, cap, rfl, hn, hc⟩ := h
  exact ⟨ao, cap, hr, hn, hc, hr 0 _ rfl, hr 1 _ rfl, hr 2 _ rfl, hr 3 _ rfl, hr 4 _ rfl, hr 5 _ rfl⟩

/-- The claim behind a variable: the walk's simp cannot turn it. -/
theorem hideR {P : Program} {f : FuncId} {args : Array Value} {w : World} {R : Ending → World → Prop} (h : ∀ R' : Ending → World → Prop, Hid (∀ e w', R e w' → R' e w') → Calls P f args w R') : Calls P f args w R :=
  h R (fun _ _ q => q)

/-- The kind "end". -/
abbrev endK : List UInt8 := [101, 110, 100]

end Go.Proofs.Qxb6600401a
