/-
  WHAT processes COMPUTES, as a plain function; and its table of processes in memory.
-/
import Derived.Test.Qxb6600401aToRec
namespace Go.Proofs.Qxb6600401a
open Go.RowKit

/-- What a record says befell one process. -/
structure Pr where
  name : ByteArray
  down : Bool
  unst : Bool
  exited : Bool
  decided : Bool
  nl : Bool
  out : List ByteArray
  since : Int

def Pr.zero : Pr := ⟨⟨#[]⟩, false, false, false, false, true, [], 0⟩

abbrev decideK : List UInt8 := [100, 101, 99, 105, 100, 101]
abbrev crashK : List UInt8 := [99, 114, 97, 115, 104]
abbrev recoverK : List UInt8 := [114, 101, 99, 111, 118, 101, 114]
abbrev exitK : List UInt8 := [101, 120, 105, 116]
abbrev detectorK : List UInt8 := [100, 101, 116, 101, 99, 116, 111, 114]

/-- The name. -/
def stepName (p : Pr) (e : Ev) : Pr := if (!e.name.toList.isEmpty) = true then { p with name := e.name } else p

/-- The kind. -/
def stepKind (p : Pr) (e : Ev) : Pr :=
  if (e.kind.toList == decideK) = true then { p with decided := true }
  else if (e.kind.toList == crashK) = true then { p with down := true, unst := p.unst || e.unst }
  else if (e.kind.toList == recoverK) = true then { p with down := false, decided := false }
  else if (e.kind.toList == exitK) = true then { p with exited := true }
  else if (e.kind.toList == detectorK) = true then { p with nl := e.nl, out := e.tr, since := e.t }
  else p

/-- One event of its own. -/
def stepPr (p : Pr) (e : Ev) : Pr := stepKind (stepName p e) e

/-- One event of the record, as process i + 1 hears it. -/
def hear (i : Nat) (p : Pr) (e : Ev) : Pr := if (e.kind.toList == endK) = true then p else if e.proc = (i : Int) + 1 then stepPr p e else p

/-- What the events say befell process i + 1. -/
def prOf (es : List Ev) (i : Nat) : Pr := es.foldl (hear i) Pr.zero

theorem prOf_take_succ (es : List Ev) (k i : Nat) (h : k < es.length) : prOf (es.take (k + 1)) i = hear i (prOf (es.take k) i) es[k] := by
  unfold prOf
  rw [List.take_succ_eq_append_getElem h, List.foldl_append]
  rfl

/-- The seven cells of a process whose output is the value v. -/
abbrev prc (p : Pr) (v : Value) : List Value := [.string p.name, .bool p.down, .bool p.unst, .bool p.exited, .bool p.decided, v, .int .i64 p.since]

/-- The table: n processes in block G, their outputs in memory that lay in w0 already. -/
structure PInv (t : TypeId) (w0 : World) (G n : Nat) (pr : Nat → Pr) (wr : World) : Prop where
  own : Own wr G t (n * 7)
  procs : ∀ i, i < n → ∃ v, wr.rangeAt G (i * 7) (prc (pr i) v) ∧ StrsAt w0 (fun _ => True) v (pr i).nl (pr i).out

theorem PInv.congr {t : TypeId} {w0 : World} {G n : Nat} {pr pr' : Nat → Pr} {wr : World} (h : PInv t w0 G n pr wr) (e : ∀ i, i < n → pr i = pr' i) : PInv t w0 G n pr' wr :=
  ⟨h.own, fun i hi => by rw [← e i hi]; exact h.procs i hi⟩

theorem PInv.below {t : TypeId} {w0 : World} {G n : Nat} {pr : Nat → Pr} {wr wr' : World} (h : PInv t w0 G n pr wr) (hB : Below wr.heap.size wr wr') : PInv t w0 G n pr wr' :=
  ⟨h.own.below hB, fun i hi => by obtain ⟨v, hr, hs⟩ := h.procs i hi; exact ⟨v, rangeAt_below hr hB, hs⟩⟩

theorem PInv.alloc {t : TypeId} {w0 : World} {G n : Nat} {pr : Nat → Pr} {wr : World} (h : PInv t w0 G n pr wr) (o : Obj) : PInv t w0 G n pr (wr.alloc o) :=
  h.below ((Below.refl _ _).alloc (Nat.le_refl _) o)

theorem PInv.drew {t : TypeId} {w0 : World} {G n : Nat} {pr : Nat → Pr} {wr : World} (h : PInv t w0 G n pr wr) : PInv t w0 G n pr wr.drew := h.below (Below.refl _ _).drew

/-- One process other than it was. -/
def upd (pr : Nat → Pr) (p : Nat) (q : Pr) : Nat → Pr := fun i => if i = p then q else pr i

theorem upd_same (pr : Nat → Pr) (p : Nat) (q : Pr) : upd pr p q p = q := by simp [upd]

/-- The store of one field. -/
theorem PInv.set {t : TypeId} {w0 : World} {G n : Nat} {pr : Nat → Pr} {wr : World} (h : PInv t w0 G n pr wr) {p : Nat} (hp : p < n) (j : Nat) (u : Value) (q : Pr)
    (hq : ∀ v, StrsAt w0 (fun _ => True) v (pr p).nl (pr p).out → ∃ v', (prc (pr p) v).set j u = prc q v' ∧ StrsAt w0 (fun _ => True) v' q.nl q.out) (hj : j < 7) :
    PInv t w0 G n (upd pr p q) (wr.setCell ⟨G, p * 7 + j, none⟩ u) := by
  refine ⟨h.own.setCell _ _, fun i hi => ?_⟩
  by_cases e : i = p
  · subst e
    obtain ⟨v, hr, hs⟩ := h.procs i hi
    obtain ⟨v', e', hs'⟩ := hq v hs
    rw [upd_same]
    refine ⟨v', ?_, hs'⟩
    rw [← e']
    intro m x hx
    by_cases em : m = j
    · subst em
      have : m < (prc (pr i) v).length := by simpa using hj
      simp only [List.getElem?_set_self this, Option.some.injEq] at hx
      subst hx
      obtain ⟨y, hy⟩ : ∃ y, (prc (pr i) v)[m]? = some y := ⟨_, List.getElem?_eq_getElem this⟩
      exact World.cell?_setCell_same _ _ _ (hr m y hy)
    · rw [List.getElem?_set_ne (fun q => em q.symm)] at hx
      rw [World.cell?_setCell_other _ _ _ _ (by simp <;> omega)]
      exact hr m x hx
  · obtain ⟨v, hr, hs⟩ := h.procs i hi
    have eu : upd pr p q i = pr i := by simp [upd, e]
    rw [eu]
    refine ⟨v, fun m x hx => ?_, hs⟩
    have hm : m < 7 := by have := (List.getElem?_eq_some_iff.1 hx).1; simpa using this
    rw [World.cell?_setCell_other _ _ _ _ (by simp <;> omega)]
    exact hr m x hx

section
variable {t : TypeId} {w0 : World} {G n : Nat} {pr : Nat → Pr} {wr : World} {p : Nat}
theorem PInv.setName (h : PInv t w0 G n pr wr) (hp : p < n) (s : ByteArray) : PInv t w0 G n (upd pr p { pr p with name := s }) (wr.setCell ⟨G, p * 7, none⟩ (.string s)) :=
  h.set hp 0 _ _ (fun v hv => ⟨v, rfl, hv⟩) (by omega)
theorem PInv.setDown (h : PInv t w0 G n pr wr) (hp : p < n) (s : Bool) : PInv t w0 G n (upd pr p { pr p with down := s }) (wr.setCell ⟨G, p * 7 + 1, none⟩ (.bool s)) :=
  h.set hp 1 _ _ (fun v hv => ⟨v, rfl, hv⟩) (by omega)
theorem PInv.setUnst (h : PInv t w0 G n pr wr) (hp : p < n) (s : Bool) : PInv t w0 G n (upd pr p { pr p with unst := s }) (wr.setCell ⟨G, p * 7 + 2, none⟩ (.bool s)) :=
  h.set hp 2 _ _ (fun v hv => ⟨v, rfl, hv⟩) (by omega)
theorem PInv.setExited (h : PInv t w0 G n pr wr) (hp : p < n) (s : Bool) : PInv t w0 G n (upd pr p { pr p with exited := s }) (wr.setCell ⟨G, p * 7 + 3, none⟩ (.bool s)) :=
  h.set hp 3 _ _ (fun v hv => ⟨v, rfl, hv⟩) (by omega)
theorem PInv.setDecided (h : PInv t w0 G n pr wr) (hp : p < n) (s : Bool) : PInv t w0 G n (upd pr p { pr p with decided := s }) (wr.setCell ⟨G, p * 7 + 4, none⟩ (.bool s)) :=
  h.set hp 4 _ _ (fun v hv => ⟨v, rfl, hv⟩) (by omega)
theorem PInv.setOut (h : PInv t w0 G n pr wr) (hp : p < n) (u : Value) (nl : Bool) (out : List ByteArray) (hu : StrsAt w0 (fun _ => True) u nl out) : PInv t w0 G n (upd pr p { pr p with nl := nl, out := out }) (wr.setCell ⟨G, p * 7 + 5, none⟩ u) :=
  h.set hp 5 _ _ (fun _ _ => ⟨u, rfl, hu⟩) (by omega)
theorem PInv.setSince (h : PInv t w0 G n pr wr) (hp : p < n) (s : Int) : PInv t w0 G n (upd pr p { pr p with since := s }) (wr.setCell ⟨G, p * 7 + 6, none⟩ (.int .i64 s)) :=
  h.set hp 6 _ _ (fun v hv => ⟨v, rfl, hv⟩) (by omega)
end

theorem PInv.cells {t : TypeId} {w0 : World} {G n : Nat} {pr : Nat → Pr} {wr : World} (h : PInv t w0 G n pr wr) {p : Nat} (hp : p < n) :
    ∃ v, wr.cell? ⟨G, p * 7, none⟩ = some (.string (pr p).name) ∧ wr.cell? ⟨G, p * 7 + 1, none⟩ = some (.bool (pr p).down) ∧ wr.cell? ⟨G, p * 7 + 2, none⟩ = some (.bool (pr p).unst) ∧ wr.cell? ⟨G, p * 7 + 3, none⟩ = some (.bool (pr p).exited) ∧
      wr.cell? ⟨G, p * 7 + 4, none⟩ = some (.bool (pr p).decided) ∧ wr.cell? ⟨G, p * 7 + 5, none⟩ = some v ∧ wr.cell? ⟨G, p * 7 + 6, none⟩ = some (.int .i64 (pr p).since) ∧ (∀ j, wr.frozen? ⟨G, j, none⟩ = false) := by
  obtain ⟨v, hr, _⟩ := h.procs p hp
  obtain ⟨c, hb, _⟩ := h.own
  exact ⟨v, hr 0 _ rfl, hr 1 _ rfl, hr 2 _ rfl, hr 3 _ rfl, hr 4 _ rfl, hr 5 _ rfl, hr 6 _ rfl, fun j => by simp [World.frozen?, hb]⟩

/-- A table just made. -/
theorem pinv_made (t : TypeId) (w : World) (n : Nat) :
    PInv t w w.heap.size n (fun _ => Pr.zero) (w.alloc (.cells (ZRow #[.string ⟨#[]⟩, .bool false, .bool false, .bool false, .bool false, .slice none 0 0, .int .i64 0] (n * 7)) t)) := by
  refine ⟨by have := own_alloc w (ZRow #[.string ⟨#[]⟩, .bool false, .bool false, .bool false, .bool false, .slice none 0 0, .int .i64 0] (n * 7)) t; rwa [size_ZRow] at this, fun i hi => ⟨.slice none 0 0, fun j v hv => ?_, ⟨none, 0, rfl, rfl, fun j hj => absurd hj (Nat.not_lt_zero j)⟩⟩⟩
  rw [World.cell?_alloc_at _ _ _ _ rfl]
  have hj : j < 7 := by have := (List.getElem?_eq_some_iff.1 hv).1; simpa using this
  unfold ZRow
  rw [getElem_madeCells _ _ _ (by omega)]
  have e : (i * 7 + j) % 7 = j := by omega
  show some (_) = _
  rw [← hv]
  simp only [List.size_toArray, List.length_cons, List.length_nil, Nat.zero_add, Nat.reduceAdd, e, Pr.zero, prc]
  match j, hj with
  | 0, _ => rfl
  | 1, _ => rfl
  | 2, _ => rfl
  | 3, _ => rfl
  | 4, _ => rfl
  | 5, _ => rfl
  | 6, _ => rfl

/-- The table in the course of processes: nothing old has turned. -/
structure RT (w : World) (n : Nat) (pr : Nat → Pr) (wr : World) : Prop where
  below : Below w.heap.size w wr
  tab : PInv 48 w w.heap.size n pr wr

section
variable {w : World} {n : Nat} {pr : Nat → Pr} {wr : World} {p : Nat}
theorem RT.congr {pr' : Nat → Pr} (h : RT w n pr wr) (e : ∀ i, i < n → pr i = pr' i) : RT w n pr' wr := ⟨h.below, h.tab.congr e⟩
theorem RT.alloc (h : RT w n pr wr) (o : Obj) : RT w n pr (wr.alloc o) := ⟨h.below.alloc h.below.size o, h.tab.alloc o⟩
theorem RT.drew (h : RT w n pr wr) : RT w n pr wr.drew := ⟨h.below.drew, h.tab.drew⟩
theorem RT.setName (h : RT w n pr wr) (hp : p < n) (s : ByteArray) : RT w n (upd pr p { pr p with name := s }) (wr.setCell ⟨w.heap.size, p * 7, none⟩ (.string s)) :=
  ⟨h.below.setCell (Nat.le_refl _) _, h.tab.setName hp s⟩
theorem RT.setDown (h : RT w n pr wr) (hp : p < n) (s : Bool) : RT w n (upd pr p { pr p with down := s }) (wr.setCell ⟨w.heap.size, p * 7 + 1, none⟩ (.bool s)) :=
  ⟨h.below.setCell (Nat.le_refl _) _, h.tab.setDown hp s⟩
theorem RT.setUnst (h : RT w n pr wr) (hp : p < n) (s : Bool) : RT w n (upd pr p { pr p with unst := s }) (wr.setCell ⟨w.heap.size, p * 7 + 2, none⟩ (.bool s)) :=
  ⟨h.below.setCell (Nat.le_refl _) _, h.tab.setUnst hp s⟩
theorem RT.setExited (h : RT w n pr wr) (hp : p < n) (s : Bool) : RT w n (upd pr p { pr p with exited := s }) (wr.setCell ⟨w.heap.size, p * 7 + 3, none⟩ (.bool s)) :=
  ⟨h.below.setCell (Nat.le_refl _) _, h.tab.setExited hp s⟩
theorem RT.setDecided (h : RT w n pr wr) (hp : p < n) (s : Bool) : RT w n (upd pr p { pr p with decided := s }) (wr.setCell ⟨w.heap.size, p * 7 + 4, none⟩ (.bool s)) :=
  ⟨h.below.setCell (Nat.le_refl _) _, h.tab.setDecided hp s⟩
theorem RT.setOut (h : RT w n pr wr) (hp : p < n) (u : Value) (nl : Bool) (out : List ByteArray) (hu : StrsAt w (fun _ => True) u nl out) : RT w n (upd pr p { pr p with nl := nl, out := out }) (wr.setCell ⟨w.heap.size, p * 7 + 5, none⟩ u) :=
  ⟨h.below.setCell (Nat.le_refl _) _, h.tab.setOut hp u nl out hu⟩
theorem RT.setSince (h : RT w n pr wr) (hp : p < n) (s : Int) : RT w n (upd pr p { pr p with since := s }) (wr.setCell ⟨w.heap.size, p * 7 + 6, none⟩ (.int .i64 s)) :=
  ⟨h.below.setCell (Nat.le_refl _) _, h.tab.setSince hp s⟩
end

/-- A table in which process p alone has turned, as the event bids. -/
theorem hear_of {pr pr' : Nat → Pr} {p : Nat} {x : Ev} (he : (x.kind.toList == endK) = false) (hp : x.proc = (p : Int) + 1) (h1 : ∀ i, i ≠ p → pr' i = pr i) (h2 : pr' p = stepPr (pr p) x) : ∀ i, pr' i = hear i (pr i) x := by
  intro i
  unfold hear
  rw [if_neg (by rw [he]; simp)]
  by_cases e : i = p
  · subst e; rw [if_pos hp, h2]
  · rw [if_neg (by rw [hp]; omega), h1 i e]

end Go.Proofs.Qxb6600401a
