/-
  THE EVENTS THAT COME IN, OPENED: any slice of events that can be read lies in memory as 'EvsAt' says.
-/
import Derived.Test.Qxb6600401aMem
import Derived.ProofKit
import Derived.ChangeOld
import Derived.Below
import Derived.Deep.Slices
import Derived.Deep.Strs
namespace Go.Proofs.Qxb6600401a
open Go.ChangeShapes Go.WideShapes Go.ChangeAt Go.RowKit Go.Deep

theorem Try.cells42 : Try.prog.cellsOf 42 = 6 := by kernel_rfl
theorem Try.cells2 : Try.prog.cellsOf 2 = 1 := by kernel_rfl
theorem Try.cells3 : Try.prog.cellsOf 3 = 1 := by kernel_rfl
theorem Try.cells4 : Try.prog.cellsOf 4 = 1 := by kernel_rfl
theorem Try.cells37 : Try.prog.cellsOf 37 = 1 := by kernel_rfl
theorem Try.cells9 : Try.prog.cellsOf 9 = 1 := by kernel_rfl

theorem spot_of_cell {w : World} {a : Addr} {v : Value} (h : w.cell? a = some v) : ∃ b o, a = ⟨b, o, none⟩ := by
  obtain ⟨b, o, sp⟩ := a
  cases sp with
  | none => exact ⟨b, o, rfl⟩
  | some s =>
    exfalso
    unfold World.cell? at h
    split at h <;> simp at h

theorem strs_of {H : Type} {enc : TypeId × Value → H} {w : World} {base : Nat} {sp : Nat → Bool} {held : Bool} {fuel : Nat} {cs : List Value} {x : DataW H × List MemPlace} (h : DataW.trod enc Try.prog w base sp held fuel 37 cs = some x) :
    ∃ v nl tr, cs = [v] ∧ StrsAt w (fun _ => True) v nl tr := by
  rcases open_strs Try.underlying37 Try.underlying9 Try.cells9 h with ⟨rfl, _⟩ | ⟨a, len, cap, m, Sx, rfl, _, hl, _, hm, _, hx⟩
  · exact ⟨_, true, [], rfl, none, 0, rfl, rfl, fun j hj => absurd hj (Nat.not_lt_zero j)⟩
  · refine ⟨_, false, (List.range len).map Sx, rfl, some a, cap, by simp, rfl, fun j hj => ?_⟩
    have hj' : j < len := by simpa using hj
    have hlm : len ≤ m := by rw [hm]; split <;> omega
    obtain ⟨b, o, e⟩ := spot_of_cell (hx 0 (by omega)).1
    have ea : a = ⟨b, o, none⟩ := by simpa [Addr.add] using e
    subst ea
    refine ⟨b, o, rfl, trivial, ?_⟩
    have := (hx j (by omega)).1
    rw [Addr.add_mid] at this
    simpa using this

/-- One event out of its six cells. -/
theorem ev_of {H : Type} {enc : TypeId × Value → H} {w : World} {base : Nat} {sp : Nat → Bool} {held : Bool} {fuel : Nat} {cs : List Value} {x : DataW H × List MemPlace} (h : DataW.trod enc Try.prog w base sp held fuel 42 cs = some x) :
    ∃ (e : Ev) (v : Value), cs = evc e v ∧ StrsAt w (fun _ => True) v e.nl e.tr := by
  obtain ⟨xs, n, _, _, hl, hlen, hf⟩ := DataW.trod_struct Try.underlying42 h
  rw [Try.cells42] at hl
  match cs, hl with
  | [c0, c1, c2, c3, c4, c5], _ =>
    match xs, hlen with
    | [y0, y1, y2, y3, y4, y5], _ =>
      have f0 := hf 0 _ rfl
      have f1 := hf 1 _ rfl
      have f2 := hf 2 _ rfl
      have f3 := hf 3 _ rfl
      have f4 := hf 4 _ rfl
      have f5 := hf 5 _ rfl
      obtain ⟨t, e0, _, _⟩ := DataW.trod_int Try.underlying2 f0
      obtain ⟨p, e1, _, _⟩ := DataW.trod_int Try.underlying3 f1
      obtain ⟨nm, e2, _, _⟩ := DataW.trod_string Try.underlying9 f2
      obtain ⟨kd, e3, _, _⟩ := DataW.trod_string Try.underlying9 f3
      obtain ⟨u, e4, _⟩ := DataW.trod_bool Try.underlying4 f4
      obtain ⟨v, nl, tr, e5, hs⟩ := strs_of f5
      simp [Try.cells2, Try.cells3, Try.cells9, Try.cells4, Try.cells37] at e0 e1 e2 e3 e4 e5
      subst e0 e1 e2 e3 e4 e5
      exact ⟨⟨t, p, nm, kd, u, nl, tr⟩, _, rfl, hs⟩

/-- THE ARGUMENT, OPENED. -/
theorem open_events {H : Type} {enc : TypeId × Value → H} {w : World} {base : Nat} {sp : Nat → Bool} {held : Bool} {fuel : Nat} {cs : List Value} {x : DataW H × List MemPlace} (h : DataW.trod enc Try.prog w base sp held fuel 22 cs = some x) :
    ∃ ao cap es, cs = [.slice ao (es : List Ev).length cap] ∧ (ao = none → es = []) ∧ es.length ≤ maxLen ∧ EvsAt w (fun _ => True) ao es := by
  rcases open_slice Try.underlying22 h with ⟨rfl, _⟩ | ⟨a, len, cap, m, n, D, Pl, rfl, _, hl, hcm, hm, _, hx⟩
  · exact ⟨none, 0, [], rfl, fun _ => rfl, Nat.zero_le _, fun i hi => absurd hi (Nat.not_lt_zero i)⟩
  · have hlm : len ≤ m := by rw [hm]; split <;> omega
    rw [Try.cells42] at hx
    have hinh : Inhabited Ev := ⟨⟨0, 0, ⟨#[]⟩, ⟨#[]⟩, false, true, []⟩⟩
    obtain ⟨E, hE⟩ := choose_lt (α := Ev) (n := len) (p := fun i e => ∃ v, (∀ j, j < 6 → w.cell? ((a.add (i * 6)).add j) = (evc e v)[j]?) ∧ StrsAt w (fun _ => True) v e.nl e.tr) (fun i hi => by
      obtain ⟨cs', h1, h2⟩ := hx i (by omega)
      obtain ⟨_, _, hc⟩ := World.cells?_some h1
      obtain ⟨e, v, rfl, hs⟩ := ev_of h2
      exact ⟨e, v, hc, hs⟩)
    refine ⟨some a, cap, (List.range len).map E, by simp, (fun h => by cases h), by simp; omega, fun i hi => ?_⟩
    have hi' : i < len := by simpa using hi
    obtain ⟨v0, hc0, _⟩ := hE 0 (by omega)
    obtain ⟨b, o, e⟩ := spot_of_cell (hc0 0 (by omega))
    have ea : a = ⟨b, o, none⟩ := by simpa [Addr.add] using e
    subst ea
    obtain ⟨v, hc, hs⟩ := hE i hi'
    refine ⟨b, o, rfl, v, fun j y hy => ?_, by simpa using hs⟩
    have hj : j < 6 := by have := (List.getElem?_eq_some_iff.1 hy).1; simpa using this
    have := hc j hj
    rw [Addr.add_mid, Addr.add_mid] at this
    rw [this]
    simpa using hy

end Go.Proofs.Qxb6600401a
