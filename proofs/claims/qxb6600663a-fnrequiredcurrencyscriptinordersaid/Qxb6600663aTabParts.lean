/-
  PARTS OF THE LAWS ON RequiredCurrency: a list of errors filled in place; a list of errors read.
-/
import Derived.Test.Qxb6600663aErrs
import Derived.Test.Qxb6600663aStrs
namespace Go.Proofs.Qxb6600663a
open Go.RowKit

theorem flat2 {α β : Type} (f : α → List β) (hf : ∀ a, (f a).length = 2) : ∀ (l : List α) (i j : Nat), j < 2 → (l.flatMap f)[i * 2 + j]? = (l[i]?).bind (fun a => (f a)[j]?)
  | [], i, j, _ => by simp
  | a :: l, 0, j, hj => by
    rw [List.flatMap_cons, Nat.zero_mul, Nat.zero_add, List.getElem?_append_left (by rw [hf]; exact hj)]
    simp
  | a :: l, i + 1, j, hj => by
    rw [List.flatMap_cons, List.getElem?_append_right (by rw [hf]; omega), hf, show (i + 1) * 2 + j - 2 = i * 2 + j by omega, flat2 f hf l i j hj]
    simp
theorem length_flat2 {α β : Type} (f : α → List β) (hf : ∀ a, (f a).length = 2) : ∀ (l : List α), (l.flatMap f).length = l.length * 2
  | [] => rfl
  | a :: l => by rw [List.flatMap_cons, List.length_append, hf, length_flat2 f hf l, List.length_cons]; omega

/-- The list's value and cells. -/
theorem ErrsIn.cells {w : World} {E base : Nat} {v : Value} {fs : List FE} (h : ErrsIn w E base v fs) :
    ∃ ao cap, v = .slice ao fs.length cap ∧ ∀ i (hi : i < fs.length), ∃ g, ao = some ⟨g, 0, none⟩ ∧ w.cell? ⟨g, i * 2, none⟩ = some (.string fs[i].field) ∧ w.cell? ⟨g, i * 2 + 1, none⟩ = some (.string fs[i].msg) := by
  obtain ⟨hl, hc⟩ := h.row
  rcases hc with ⟨rfl, h0⟩ | ⟨g, cap, cur, rfl, _, hh, _, _, _, htake⟩
  · exact ⟨none, 0, by rw [h0], fun i hi => by omega⟩
  · refine ⟨_, cap, rfl, fun i hi => ⟨g, rfl, ?_, ?_⟩⟩
    · have h1 : (cur.toList.take (fs.length * 2))[i * 2 + 0]? = some (.string fs[i].field) := by
        rw [htake, flat2 fcells (fun _ => rfl) fs i 0 (by omega), List.getElem?_eq_getElem hi]; rfl
      rw [List.getElem?_take_of_lt (by omega)] at h1
      simp [World.cell?, hh]
      simpa using h1
    · have h1 : (cur.toList.take (fs.length * 2))[i * 2 + 1]? = some (.string fs[i].msg) := by
        rw [htake, flat2 fcells (fun _ => rfl) fs i 1 (by omega), List.getElem?_eq_getElem hi]; rfl
      rw [List.getElem?_take_of_lt (by omega)] at h1
      simp [World.cell?, hh]
      simpa using h1

/-- The errors found before. -/
def prevOf (pf pm : List ByteArray) : List FE := List.zipWith FE.mk pf pm
theorem prevOf_len (pf pm : List ByteArray) : (prevOf pf pm).length = min pf.length pm.length := by simp [prevOf]
theorem prevOf_get (pf pm : List ByteArray) (i : Nat) (h : i < (prevOf pf pm).length) : (prevOf pf pm)[i] = ⟨pf[i]'(by rw [prevOf_len] at h; omega), pm[i]'(by rw [prevOf_len] at h; omega)⟩ := by
  simp [prevOf]

/-- The table in the course of its filling. -/
structure FInv (w : World) (cap : Nat) (fs : List FE) (k : Nat) (wr : World) : Prop where
  below : Below w.heap.size w wr
  ptr : wr.heap[w.heap.size + 1]? = some (.cells #[.slice (some ⟨w.heap.size, 0, none⟩) fs.length cap] 37 (0, 0))
  own : ∃ c : Array Value, wr.heap[w.heap.size]? = some (.cells c 39 (0, 0)) ∧ c.size = cap * 2
  done : ∀ i (_ : i < k) (h : i < fs.length), wr.rangeAt w.heap.size (i * 2) (fcells fs[i])

theorem heap_new (w : World) (o : Obj) : (w.alloc o).heap[w.heap.size]? = some o := by
  show (w.heap.push o)[_]? = _
  simp

theorem finv_start (w : World) (cap : Nat) (fs : List FE) (c : Array Value) (hc : c.size = cap * 2) : FInv w cap fs 0 ((w.alloc (.cells c 39)).alloc (.cells #[.slice (some ⟨w.heap.size, 0, none⟩) fs.length cap] 37)) := by
  refine ⟨((Below.refl _ _).alloc (Nat.le_refl _) _).alloc (by simp) _, ?_, ⟨c, ?_, hc⟩, fun i h => absurd h (Nat.not_lt_zero i)⟩
  · have e : (w.alloc (.cells c 39)).heap.size = w.heap.size + 1 := by simp
    have h := heap_new (w.alloc (.cells c 39)) (.cells #[.slice (some ⟨w.heap.size, 0, none⟩) fs.length cap] 37)
    rw [e] at h
    exact h
  · rw [Below.heap_alloc _ _ _ (by simp)]
    show (w.heap.push _)[_]? = _
    simp

theorem heap_setCells (b k : Nat) (hk : k ≠ b) : ∀ (vs : List Value) (o : Nat) (w : World), (w.setCells b o vs).heap[k]? = w.heap[k]?
  | [], _, _ => rfl
  | v :: r, o, w => by rw [World.setCells, heap_setCells b k hk r (o + 1) _]; exact Below.heap_setCell _ _ _ _ hk
theorem below_setCells {B : Nat} {a : World} (b : Nat) (hb : B ≤ b) : ∀ (vs : List Value) (o : Nat) (w : World), Below B a w → Below B a (w.setCells b o vs)
  | [], _, _, h => h
  | v :: r, o, w, h => by rw [World.setCells]; exact below_setCells b hb r (o + 1) _ (h.setCell (p := ⟨b, o, none⟩) hb v)
theorem own_setCells {g n : Nat} {t : TypeId} (b : Nat) : ∀ (vs : List Value) (o : Nat) (w : World), (∃ c : Array Value, w.heap[g]? = some (.cells c t (0, 0)) ∧ c.size = n) → ∃ c : Array Value, (w.setCells b o vs).heap[g]? = some (.cells c t (0, 0)) ∧ c.size = n
  | [], _, _, h => h
  | v :: r, o, w, h => by
    rw [World.setCells]
    refine own_setCells b r (o + 1) _ ?_
    obtain ⟨c, hc, hn⟩ := h
    by_cases hg : g = b
    · subst hg
      exact ⟨c.setIfInBounds o v, by simp [World.setCell, Array.getElem?_modify, hc], by simpa using hn⟩
    · exact ⟨c, by rw [Below.heap_setCell _ _ _ _ hg]; exact hc, hn⟩

theorem FInv.there {w : World} {cap : Nat} {fs : List FE} {k : Nat} {wr : World} (h : FInv w cap fs k wr) (hk : k < fs.length) (hl : fs.length ≤ cap) : wr.there w.heap.size (k * 2) 2 := by
  obtain ⟨c, hb, hn⟩ := h.own
  intro j hj
  refine ⟨?_, by simp [World.frozen?, hb]⟩
  have : k * 2 + j < c.size := by omega
  simp [World.cell?, hb, this]

theorem FInv.step {w : World} {cap : Nat} {fs : List FE} {k : Nat} {wr : World} (h : FInv w cap fs k wr) (hk : k < fs.length) (hl : fs.length ≤ cap) : FInv w cap fs (k + 1) (wr.drew.setCells w.heap.size (k * 2) (fcells fs[k])) := by
  refine ⟨below_setCells _ (Nat.le_refl _) _ _ _ h.below.drew, ?_, own_setCells _ _ _ _ h.own, fun i hi hil => ?_⟩
  · rw [heap_setCells _ _ (by omega)]; exact h.ptr
  · by_cases e : i = k
    · subst e
      exact World.rangeAt_setCells_same _ _ _ _ ((World.there_drew _ _ _ _).2 (h.there hk hl))
    · exact World.rangeAt_setCells_apart ((World.rangeAt_drew _ _ _ _).2 (h.done i (by omega) hil)) _ _ _ (by simp; omega)

theorem FInv.errs {w : World} {cap : Nat} {fs : List FE} {wr : World} (h : FInv w cap fs fs.length wr) (hl : fs.length ≤ cap) (hc : cap ≤ 1000000) : ErrsIn wr (w.heap.size + 1) w.heap.size (.slice (some ⟨w.heap.size, 0, none⟩) fs.length cap) fs := by
  obtain ⟨c, hb, hn⟩ := h.own
  refine ⟨h.ptr, length_flat2 fcells (fun _ => rfl) fs, .inr ⟨w.heap.size, cap, c, rfl, Nat.le_refl _, hb, hl, by unfold maxLen; omega, hn, ?_⟩⟩
  apply List.ext_getElem?
  intro i
  by_cases hi : i < fs.length * 2
  · rw [List.getElem?_take_of_lt hi]
    have h6 : i = i / 2 * 2 + i % 2 := by omega
    have hq : i / 2 < fs.length := by omega
    have hm : i % 2 < 2 := by omega
    rw [h6, flat2 fcells (fun _ => rfl) fs _ _ hm, List.getElem?_eq_getElem hq]
    have hr := h.done (i / 2) hq hq (i % 2)
    rcases (show i % 2 = 0 ∨ i % 2 = 1 by omega) with e | e
    · rw [e] at hr ⊢
      have := hr _ rfl
      simp [World.cell?, hb] at this
      simp [this]
    · rw [e] at hr ⊢
      have := hr _ rfl
      simp [World.cell?, hb] at this
      simp [this]
  · rw [List.getElem?_eq_none (by simp; omega), List.getElem?_eq_none (by rw [length_flat2 fcells (fun _ => rfl)]; omega)]

theorem Try.size39 : (Try.prog.info? 39).map (·.size) = some 2 := by kernel_rfl

/-- The store of a whole field error, met by its text. -/
theorem store_fe (x y : Operand) {ops : Array Oper} {rest : List Oper} {dst : Option Tmp} {ty : TypeId} {pos : String} {after : Array Edge} {a : Act} {w : World} {Q : Exit → Act → World → Prop}
    (H : ∃ b o : Nat, ∃ f : FE, a.eval x = .pointer (some ⟨b, o, none⟩) ∧ a.eval y = .agg (fcells f).toArray ∧ w.there b o 2 ∧ wpList Try.prog ops Q rest (a.put dst undef) (w.setCells b o (fcells f))) :
    wpList Try.prog ops Q ({ dst := dst, op := .store 39 x y, type := ty, pos := pos, after := after, guard := none } :: rest) a w := by
  obtain ⟨b, o, f, hx, hy, ht, h⟩ := H
  exact wpList_store_mid rfl 39 x y rfl b o _ hx hy ht Try.size39 (by simp [Value.oneCell']) h

def ZE (n : Nat) : Array Value := madeCells #[.string ⟨#[]⟩, .string ⟨#[]⟩] n
theorem size_ZE (n : Nat) : (ZE n).size = n := size_madeCells _ _
theorem make37 (n c : Nat) (hn : n ≤ c) (hc : c ≤ 1048576) (w : World) : (Instr.makeSlice 37 (.int .i64 (n : Int)) (.int .i64 (c : Int))).run Try.prog w = .ok (.slice (some ⟨w.heap.size, 0, none⟩) n c) (w.alloc (.cells (ZE (c * 2)) 39)) := by
  obtain ⟨i, hi, hz, hs, hb⟩ := info_39
  have := run_make (P := Try.prog) w 37 39 i _ Try.underlying37 hi hz .i64 .i64 (n : Int) (c : Int) (by omega) (by omega) (by rw [hb]; omega) (by omega)
  rw [hs] at this
  simpa [ZE, Value.cells] using this

theorem ErrsIn.alloc {w : World} {E base : Nat} {v : Value} {fs : List FE} (h : ErrsIn w E base v fs) (o : Obj) : ErrsIn (w.alloc o) E base v fs :=
  ⟨by rw [Below.heap_alloc _ _ _ (Array.getElem?_eq_some_iff.1 h.ptr).1]; exact h.ptr, h.row.alloc o⟩

theorem SAt.under {w w' : World} {ao : Option Addr} {ss : List ByteArray} {B : Nat} (h : SAt w ao ss) (hB : Below B w w') (hw : w.heap.size ≤ B) : SAt w' ao ss := h.below (hB.mono hw)

end Go.Proofs.Qxb6600663a
