/-
  SLICES OF STRINGS AND OF BOOLS THAT COME IN, OPENED.
-/
import Derived.Test.Qxb6600663aStrs
import Derived.ProofKit
import Derived.OpenShut
import Derived.ShutString
import Derived.ChangeOld
import Derived.Below
import Derived.Deep.Slices
import Derived.Deep.Strs
namespace Go.Proofs.Qxb6600663a
open Go.ChangeShapes Go.WideShapes Go.ChangeAt Go.RowKit Go.Deep

theorem knob : ownKnob Try.prog.godebug = none := by kernel_rfl
theorem laidOut : laidOutB Try.prog = true := by kernel_rfl
theorem Try.cells9 : Try.prog.cellsOf 9 = 1 := by kernel_rfl
theorem Try.cells4 : Try.prog.cellsOf 4 = 1 := by kernel_rfl

theorem bounds8 {x : Int} (h : (Lit.int .u8 x).wf = true) : 0 ≤ x ∧ x ≤ 255 := by
  have h1 : IntKind.u8.min = 0 := rfl
  have h2 : IntKind.u8.max = 255 := rfl
  simp only [Lit.wf, Bool.and_eq_true, decide_eq_true_eq] at h
  omega

theorem spot_of_cell {w : World} {a : Addr} {v : Value} (h : w.cell? a = some v) : ∃ b o, a = ⟨b, o, none⟩ := by
  obtain ⟨b, o, sp⟩ := a
  cases sp with
  | none => exact ⟨b, o, rfl⟩
  | some s =>
    exfalso
    unfold World.cell? at h
    split at h <;> simp at h

theorem open_S {H : Type} {enc : TypeId × Value → H} {w : World} {base : Nat} {sp : Nat → Bool} {held : Bool} {fuel : Nat} {cs : List Value} {x : DataW H × List MemPlace} (h : DataW.trod enc Try.prog w base sp held fuel 32 cs = some x) :
    ∃ ao cap, ∃ ss : List ByteArray, cs = [.slice ao ss.length cap] ∧ (ao = none → ss = []) ∧ SAt w ao ss := by
  rcases open_strs Try.underlying32 Try.underlying9 Try.cells9 h with ⟨rfl, _⟩ | ⟨a, len, cap, m, Sx, rfl, _, hl, _, hm, _, hx⟩
  · exact ⟨none, 0, [], rfl, fun _ => rfl, fun i hi => absurd hi (Nat.not_lt_zero i)⟩
  · refine ⟨some a, cap, (List.range len).map Sx, by simp, (fun h => by cases h), fun j hj => ?_⟩
    have hj' : j < len := by simpa using hj
    have hlm : len ≤ m := by rw [hm]; split <;> omega
    obtain ⟨b, o, e⟩ := spot_of_cell (hx 0 (by omega)).1
    have ea : a = ⟨b, o, none⟩ := by simpa [Addr.add] using e
    subst ea
    refine ⟨b, o, rfl, ?_⟩
    have := (hx j (by omega)).1
    rw [Addr.add_mid] at this
    simpa using this

theorem open_B {H : Type} {enc : TypeId × Value → H} {w : World} {base : Nat} {sp : Nat → Bool} {held : Bool} {fuel : Nat} {cs : List Value} {x : DataW H × List MemPlace} (h : DataW.trod enc Try.prog w base sp held fuel 42 cs = some x) :
    ∃ ao cap, ∃ bs : List Bool, cs = [.slice ao bs.length cap] ∧ (ao = none → bs = []) ∧ BAt w ao bs := by
  rcases open_slice1 Try.underlying42 Try.cells4 h with ⟨rfl, _⟩ | ⟨a, len, cap, m, n, V, D, Pl, rfl, _, hl, _, hm, _, hx⟩
  · exact ⟨none, 0, [], rfl, fun _ => rfl, fun i hi => absurd hi (Nat.not_lt_zero i)⟩
  · have hlm : len ≤ m := by rw [hm]; split <;> omega
    obtain ⟨X, hX⟩ := choose_lt (α := Bool) (n := len) (p := fun i z => V i = .bool z) (fun i hi => by
      obtain ⟨z, e, _⟩ := DataW.trod_bool Try.underlying4 (hx i (by omega)).2
      exact ⟨z, by simpa using e⟩)
    refine ⟨some a, cap, (List.range len).map X, by simp, (fun h => by cases h), fun j hj => ?_⟩
    have hj' : j < len := by simpa using hj
    obtain ⟨b, o, e⟩ := spot_of_cell (hx 0 (by omega)).1
    have ea : a = ⟨b, o, none⟩ := by simpa [Addr.add] using e
    subst ea
    refine ⟨b, o, rfl, ?_⟩
    have := (hx j (by omega)).1
    rw [Addr.add_mid, hX j hj'] at this
    simpa using this

end Go.Proofs.Qxb6600663a
