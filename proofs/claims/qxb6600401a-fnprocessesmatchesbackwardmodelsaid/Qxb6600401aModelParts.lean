/-
  THE BACKWARD MODEL, as a plain function; that it comes to what processes computes; its tables in memory.
-/
import Derived.Test.Qxb6600401aInterParts
namespace Go.Proofs.Qxb6600401a
open Go.RowKit

/-- One process of the backward model: what it has, and what has been seen. -/
structure Bk where
  pr : Pr
  nm : Bool
  lf : Bool
  rc : Bool
  dt : Bool

def Bk.zero : Bk := ⟨Pr.zero, false, false, false, false⟩

def bName (b : Bk) (e : Ev) : Bk := if b.nm = false ∧ (!e.name.toList.isEmpty) = true then { b with pr := { b.pr with name := e.name }, nm := true } else b

def bDecide (b : Bk) : Bk := if b.rc = false then { b with pr := { b.pr with decided := true } } else b
def bLife (b : Bk) : Bk := if b.lf = false then { b with pr := { b.pr with down := true }, lf := true } else b
def bUnst (b : Bk) (e : Ev) : Bk := if e.unst = true then { b with pr := { b.pr with unst := true } } else b
def bDet (b : Bk) (e : Ev) : Bk := if b.dt = false then { b with pr := { b.pr with nl := e.nl, out := e.tr, since := e.t }, dt := true } else b

def bKind (b : Bk) (e : Ev) : Bk :=
  if (e.kind.toList == decideK) = true then bDecide b
  else if (e.kind.toList == crashK) = true then bUnst (bLife b) e
  else if (e.kind.toList == recoverK) = true then { b with lf := true, rc := true }
  else if (e.kind.toList == exitK) = true then { b with pr := { b.pr with exited := true } }
  else if (e.kind.toList == detectorK) = true then bDet b e
  else b

def bStep (b : Bk) (e : Ev) : Bk := bKind (bName b e) e

def bHear (i : Nat) (e : Ev) (b : Bk) : Bk := if (e.kind.toList == endK) = true then b else if e.proc = (i : Int) + 1 then bStep b e else b

/-- The backward model of process i + 1. -/
def bkOf (es : List Ev) (i : Nat) : Bk := es.foldr (bHear i) Bk.zero

theorem bkOf_drop (es : List Ev) (k i : Nat) (h : k < es.length) : bkOf (es.drop k) i = bHear i es[k] (bkOf (es.drop (k + 1)) i) := by
  unfold bkOf
  rw [List.drop_eq_getElem_cons h]
  rfl

/-! ### The plain law -/
/-- What is known before (p) and what is known behind (b), put together. -/
def merge (p : Pr) (b : Bk) : Pr :=
  { name := if b.nm = true then b.pr.name else p.name
    down := if b.lf = true then b.pr.down else p.down
    unst := p.unst || b.pr.unst
    exited := p.exited || b.pr.exited
    decided := if b.rc = true then b.pr.decided else (p.decided || b.pr.decided)
    nl := if b.dt = true then b.pr.nl else p.nl
    out := if b.dt = true then b.pr.out else p.out
    since := if b.dt = true then b.pr.since else p.since }

/-- What is not seen is zero. -/
structure Fresh (b : Bk) : Prop where
  nm : b.nm = false → b.pr.name = ⟨#[]⟩
  lf : b.lf = false → b.pr.down = false
  dt : b.dt = false → b.pr.nl = true ∧ b.pr.out = [] ∧ b.pr.since = 0

theorem fresh_zero : Fresh Bk.zero := ⟨fun _ => rfl, fun _ => rfl, fun _ => ⟨rfl, rfl, rfl⟩⟩

theorem fresh_name {b : Bk} (h : Fresh b) (e : Ev) : Fresh (bName b e) := by
  unfold bName
  split
  · exact ⟨fun q => by simp at q, h.lf, h.dt⟩
  · exact h

theorem fresh_kind {b : Bk} (h : Fresh b) (e : Ev) : Fresh (bKind b e) := by
  unfold bKind
  split
  · unfold bDecide; split
    · exact ⟨h.nm, h.lf, h.dt⟩
    · exact h
  · split
    · have h1 : Fresh (bLife b) := by
        unfold bLife; split
        · exact ⟨h.nm, fun q => by simp at q, h.dt⟩
        · exact h
      unfold bUnst; split
      · exact ⟨h1.nm, h1.lf, h1.dt⟩
      · exact h1
    · split
      · exact ⟨h.nm, fun q => by simp at q, h.dt⟩
      · split
        · exact ⟨h.nm, h.lf, h.dt⟩
        · split
          · unfold bDet; split
            · exact ⟨h.nm, h.lf, fun q => by simp at q⟩
            · exact h
          · exact h

theorem fresh_hear {b : Bk} (h : Fresh b) (i : Nat) (e : Ev) : Fresh (bHear i e b) := by
  unfold bHear
  split
  · exact h
  · split
    · exact fresh_kind (fresh_name h e) e
    · exact h

theorem fresh_bkOf (i : Nat) : ∀ es, Fresh (bkOf es i)
  | [] => fresh_zero
  | e :: es => fresh_hear (fresh_bkOf i es) i e

theorem merge_name (p : Pr) (b : Bk) (e : Ev) : merge (stepName p e) b = merge p (bName b e) := by
  obtain ⟨⟨n1, d1, u1, x1, c1, l1, o1, s1⟩, nm, lf, rc, dt⟩ := b
  by_cases h : (!e.name.toList.isEmpty) = true
  · cases nm <;> simp [merge, stepName, bName, h]
  · have h' : (!e.name.toList.isEmpty) = false := by simpa using h
    simp [merge, stepName, bName, h']

theorem merge_kind (p : Pr) (b : Bk) (hb : Fresh b) (e : Ev) : merge (stepKind p e) b = merge p (bKind b e) := by
  have hl := hb.lf
  obtain ⟨⟨n1, d1, u1, x1, c1, l1, o1, s1⟩, nm, lf, rc, dt⟩ := b
  obtain ⟨n0, d0, u0, x0, c0, l0, o0, s0⟩ := p
  unfold stepKind bKind
  by_cases k1 : (e.kind.toList == decideK) = true
  · rw [if_pos k1, if_pos k1]
    cases rc <;> simp [merge, bDecide]
  rw [if_neg k1, if_neg k1]
  by_cases k2 : (e.kind.toList == crashK) = true
  · rw [if_pos k2, if_pos k2]
    cases lf <;> cases hu : e.unst <;> simp [merge, bLife, bUnst, hu]
  rw [if_neg k2, if_neg k2]
  by_cases k3 : (e.kind.toList == recoverK) = true
  · rw [if_pos k3, if_pos k3]
    cases lf with
    | true => simp [merge]
    | false =>
      have : d1 = false := hl rfl
      subst this
      simp [merge]
  rw [if_neg k3, if_neg k3]
  by_cases k4 : (e.kind.toList == exitK) = true
  · rw [if_pos k4, if_pos k4]
    simp [merge]
  rw [if_neg k4, if_neg k4]
  by_cases k5 : (e.kind.toList == detectorK) = true
  · rw [if_pos k5, if_pos k5]
    cases dt <;> simp [merge, bDet]
  rw [if_neg k5, if_neg k5]

theorem name_kind (b : Bk) (e : Ev) : bName (bKind b e) e = bKind (bName b e) e := by
  obtain ⟨⟨n1, d1, u1, x1, c1, l1, o1, s1⟩, nm, lf, rc, dt⟩ := b
  unfold bKind
  by_cases k1 : (e.kind.toList == decideK) = true
  · rw [if_pos k1, if_pos k1]
    cases rc <;> cases nm <;> cases h : e.name.toList.isEmpty <;> simp [bName, bDecide, h]
  rw [if_neg k1, if_neg k1]
  by_cases k2 : (e.kind.toList == crashK) = true
  · rw [if_pos k2, if_pos k2]
    cases lf <;> cases nm <;> cases hu : e.unst <;> cases h : e.name.toList.isEmpty <;> simp [bName, bLife, bUnst, hu, h]
  rw [if_neg k2, if_neg k2]
  by_cases k3 : (e.kind.toList == recoverK) = true
  · rw [if_pos k3, if_pos k3]
    cases nm <;> cases h : e.name.toList.isEmpty <;> simp [bName, h]
  rw [if_neg k3, if_neg k3]
  by_cases k4 : (e.kind.toList == exitK) = true
  · rw [if_pos k4, if_pos k4]
    cases nm <;> cases h : e.name.toList.isEmpty <;> simp [bName, h]
  rw [if_neg k4, if_neg k4]
  by_cases k5 : (e.kind.toList == detectorK) = true
  · rw [if_pos k5, if_pos k5]
    cases dt <;> cases nm <;> cases h : e.name.toList.isEmpty <;> simp [bName, bDet, h]
  rw [if_neg k5, if_neg k5]

theorem merge_hear (i : Nat) (p : Pr) (b : Bk) (hb : Fresh b) (e : Ev) : merge (hear i p e) b = merge p (bHear i e b) := by
  unfold hear bHear
  split
  · rfl
  · split
    · unfold stepPr bStep
      rw [merge_kind _ _ hb, merge_name, name_kind]
    · rfl

theorem foldl_merge (i : Nat) : ∀ (es : List Ev) (p : Pr), es.foldl (hear i) p = merge p (bkOf es i)
  | [], p => by obtain ⟨n0, d0, u0, x0, c0, l0, o0, s0⟩ := p; simp [bkOf, merge, Bk.zero, Pr.zero]
  | e :: es, p => by
    rw [List.foldl_cons, foldl_merge i es, merge_hear i p _ (fresh_bkOf i es) e]
    rfl

/-- THE PLAIN LAW. -/
theorem prOf_bkOf (es : List Ev) (i : Nat) : prOf es i = (bkOf es i).pr := by
  have h := fresh_bkOf i es
  unfold prOf
  rw [foldl_merge]
  generalize bkOf es i = b at *
  have h1 := h.nm
  have h2 := h.lf
  have h3 := h.dt
  obtain ⟨⟨n1, d1, u1, x1, c1, l1, o1, s1⟩, nm, lf, rc, dt⟩ := b
  cases nm <;> cases lf <;> cases dt <;> simp_all [merge, Pr.zero]

/-! ### The tables in memory -/
/-- A row of n bools in block g. -/
structure BRow (wr : World) (g n : Nat) (f : Nat → Bool) : Prop where
  own : Own wr g 4 n
  cell : ∀ i, i < n → wr.cell? ⟨g, i, none⟩ = some (.bool (f i))

theorem BRow.congr {wr : World} {g n : Nat} {f f' : Nat → Bool} (h : BRow wr g n f) (e : ∀ i, i < n → f i = f' i) : BRow wr g n f' := ⟨h.own, fun i hi => by rw [← e i hi]; exact h.cell i hi⟩
theorem BRow.below {wr wr' : World} {g n : Nat} {f : Nat → Bool} (h : BRow wr g n f) (hB : Below wr.heap.size wr wr') : BRow wr' g n f := ⟨h.own.below hB, fun i hi => cell_later hB (h.cell i hi)⟩
theorem BRow.other {wr : World} {g n : Nat} {f : Nat → Bool} (h : BRow wr g n f) (a : Addr) (u : Value) (ha : g ≠ a.block) : BRow (wr.setCell a u) g n f :=
  ⟨h.own.setCell _ _, fun i hi => by rw [World.cell?_setCell_other _ _ _ _ (by intro e; apply ha; rw [e])]; exact h.cell i hi⟩
theorem BRow.set {wr : World} {g n : Nat} {f : Nat → Bool} (h : BRow wr g n f) {p : Nat} (hp : p < n) (x : Bool) : BRow (wr.setCell ⟨g, p, none⟩ (.bool x)) g n (fun i => if i = p then x else f i) :=
  ⟨h.own.setCell _ _, fun i hi => by
    by_cases e : i = p
    · subst e; rw [World.cell?_setCell_same _ _ _ (h.cell i hi)]; simp
    · rw [World.cell?_setCell_other _ _ _ _ (by simp <;> omega)]; simp only [if_neg e]; exact h.cell i hi⟩

theorem brow_made (w : World) (n : Nat) : BRow (w.alloc (.cells (ZRow #[.bool false] (n * 1)) 4)) w.heap.size n (fun _ => false) := by
  have ho := own_alloc w (ZRow #[.bool false] (n * 1)) 4
  have hz : (ZRow #[.bool false] (n * 1)).size = n := (size_ZRow _ _).trans (Nat.mul_one _)
  rw [hz] at ho
  refine ⟨ho, fun i hi => ?_⟩
  rw [World.cell?_alloc_at _ _ _ _ rfl]
  unfold ZRow
  rw [getElem_madeCells _ _ _ (by omega)]
  simp [Nat.mod_one]

theorem PInv.other {t : TypeId} {w0 : World} {G n : Nat} {pr : Nat → Pr} {wr : World} (h : PInv t w0 G n pr wr) (a : Addr) (u : Value) (ha : G ≠ a.block) : PInv t w0 G n pr (wr.setCell a u) :=
  ⟨h.own.setCell _ _, fun i hi => by obtain ⟨v, hr, hs⟩ := h.procs i hi; exact ⟨v, rangeAt_setCell_other hr a u ha, hs⟩⟩

/-- The five tables of the backward model. -/
structure BT (w : World) (n : Nat) (bk : Nat → Bk) (wr : World) : Prop where
  below : Below w.heap.size w wr
  tab : PInv 39 w w.heap.size n (fun i => (bk i).pr) wr
  nm : BRow wr (w.heap.size + 1) n (fun i => (bk i).nm)
  lf : BRow wr (w.heap.size + 2) n (fun i => (bk i).lf)
  rc : BRow wr (w.heap.size + 3) n (fun i => (bk i).rc)
  dt : BRow wr (w.heap.size + 4) n (fun i => (bk i).dt)

def updB (bk : Nat → Bk) (p : Nat) (q : Bk) : Nat → Bk := fun i => if i = p then q else bk i
theorem updB_same (bk : Nat → Bk) (p : Nat) (q : Bk) : updB bk p q p = q := by simp [updB]

section
variable {w : World} {n : Nat} {bk : Nat → Bk} {wr : World} {p : Nat}
theorem BT.congr {bk' : Nat → Bk} (h : BT w n bk wr) (e : ∀ i, i < n → bk i = bk' i) : BT w n bk' wr :=
  ⟨h.below, h.tab.congr (fun i hi => by rw [e i hi]), h.nm.congr (fun i hi => by rw [e i hi]), h.lf.congr (fun i hi => by rw [e i hi]), h.rc.congr (fun i hi => by rw [e i hi]), h.dt.congr (fun i hi => by rw [e i hi])⟩
theorem BT.alloc (h : BT w n bk wr) (o : Obj) : BT w n bk (wr.alloc o) :=
  have hB := (Below.refl wr.heap.size wr).alloc (Nat.le_refl _) o
  ⟨h.below.alloc h.below.size o, h.tab.alloc o, h.nm.below hB, h.lf.below hB, h.rc.below hB, h.dt.below hB⟩

/-- A store into the processes' table. -/
theorem BT.setPr (h : BT w n bk wr) (q : Pr) (o : Nat) (u : Value) (ht : PInv 39 w w.heap.size n (upd (fun i => (bk i).pr) p q) (wr.setCell ⟨w.heap.size, o, none⟩ u)) :
    BT w n (updB bk p { bk p with pr := q }) (wr.setCell ⟨w.heap.size, o, none⟩ u) := by
  have e : ∀ i, (updB bk p { bk p with pr := q } i).nm = (bk i).nm ∧ (updB bk p { bk p with pr := q } i).lf = (bk i).lf ∧ (updB bk p { bk p with pr := q } i).rc = (bk i).rc ∧ (updB bk p { bk p with pr := q } i).dt = (bk i).dt := fun i => by
    unfold updB; split
    · rename_i hi; subst hi; exact ⟨rfl, rfl, rfl, rfl⟩
    · exact ⟨rfl, rfl, rfl, rfl⟩
  refine ⟨h.below.setCell (Nat.le_refl _) _, ht.congr (fun i _ => ?_), (h.nm.other _ _ (by simp)).congr (fun i _ => (e i).1.symm), (h.lf.other _ _ (by simp)).congr (fun i _ => (e i).2.1.symm), (h.rc.other _ _ (by simp)).congr (fun i _ => (e i).2.2.1.symm), (h.dt.other _ _ (by simp)).congr (fun i _ => (e i).2.2.2.symm)⟩
  unfold upd updB; split <;> rfl

theorem BT.setName (h : BT w n bk wr) (hp : p < n) (s : ByteArray) : BT w n (updB bk p { bk p with pr := { (bk p).pr with name := s } }) (wr.setCell ⟨w.heap.size, p * 7, none⟩ (.string s)) := h.setPr _ _ _ (h.tab.setName hp s)
theorem BT.setDown (h : BT w n bk wr) (hp : p < n) (s : Bool) : BT w n (updB bk p { bk p with pr := { (bk p).pr with down := s } }) (wr.setCell ⟨w.heap.size, p * 7 + 1, none⟩ (.bool s)) := h.setPr _ _ _ (h.tab.setDown hp s)
theorem BT.setUnst (h : BT w n bk wr) (hp : p < n) (s : Bool) : BT w n (updB bk p { bk p with pr := { (bk p).pr with unst := s } }) (wr.setCell ⟨w.heap.size, p * 7 + 2, none⟩ (.bool s)) := h.setPr _ _ _ (h.tab.setUnst hp s)
theorem BT.setExited (h : BT w n bk wr) (hp : p < n) (s : Bool) : BT w n (updB bk p { bk p with pr := { (bk p).pr with exited := s } }) (wr.setCell ⟨w.heap.size, p * 7 + 3, none⟩ (.bool s)) := h.setPr _ _ _ (h.tab.setExited hp s)
theorem BT.setDecided (h : BT w n bk wr) (hp : p < n) (s : Bool) : BT w n (updB bk p { bk p with pr := { (bk p).pr with decided := s } }) (wr.setCell ⟨w.heap.size, p * 7 + 4, none⟩ (.bool s)) := h.setPr _ _ _ (h.tab.setDecided hp s)
theorem BT.setOut (h : BT w n bk wr) (hp : p < n) (u : Value) (nl : Bool) (out : List ByteArray) (hu : StrsAt w (fun _ => True) u nl out) : BT w n (updB bk p { bk p with pr := { (bk p).pr with nl := nl, out := out } }) (wr.setCell ⟨w.heap.size, p * 7 + 5, none⟩ u) := h.setPr _ _ _ (h.tab.setOut hp u nl out hu)
theorem BT.setSince (h : BT w n bk wr) (hp : p < n) (s : Int) : BT w n (updB bk p { bk p with pr := { (bk p).pr with since := s } }) (wr.setCell ⟨w.heap.size, p * 7 + 6, none⟩ (.int .i64 s)) := h.setPr _ _ _ (h.tab.setSince hp s)

theorem BT.flag (h : BT w n bk wr) (q : Bk) (hq : q.pr = (bk p).pr) (d : Nat) (u : Value) (hd : 1 ≤ d)
    (h1 : BRow (wr.setCell ⟨w.heap.size + d, p, none⟩ u) (w.heap.size + 1) n (fun i => (updB bk p q i).nm)) (h2 : BRow (wr.setCell ⟨w.heap.size + d, p, none⟩ u) (w.heap.size + 2) n (fun i => (updB bk p q i).lf))
    (h3 : BRow (wr.setCell ⟨w.heap.size + d, p, none⟩ u) (w.heap.size + 3) n (fun i => (updB bk p q i).rc)) (h4 : BRow (wr.setCell ⟨w.heap.size + d, p, none⟩ u) (w.heap.size + 4) n (fun i => (updB bk p q i).dt)) :
    BT w n (updB bk p q) (wr.setCell ⟨w.heap.size + d, p, none⟩ u) :=
  ⟨h.below.setCell (by simp) _, (h.tab.other _ _ (by simp; omega)).congr (fun i _ => by unfold updB; split; (· rename_i hi; subst hi; exact hq.symm); (· rfl)), h1, h2, h3, h4⟩

theorem keep_row {g d : Nat} {f : Bk → Bool} {q : Bk} (h : BRow wr g n (fun i => f (bk i))) (hg : g ≠ w.heap.size + d) (hq : f q = f (bk p)) (u : Value) : BRow (wr.setCell ⟨w.heap.size + d, p, none⟩ u) g n (fun i => f (updB bk p q i)) :=
  (h.other _ _ hg).congr fun i _ => by unfold updB; split; (· rename_i hi; subst hi; exact hq.symm); (· rfl)
theorem set_row {g : Nat} {f : Bk → Bool} {q : Bk} (h : BRow wr g n (fun i => f (bk i))) (hp : p < n) (x : Bool) (hq : f q = x) : BRow (wr.setCell ⟨g, p, none⟩ (.bool x)) g n (fun i => f (updB bk p q i)) :=
  (h.set hp x).congr fun i _ => by unfold updB; split; (· exact hq.symm); (· rfl)

theorem BT.setNm (h : BT w n bk wr) (hp : p < n) : BT w n (updB bk p { bk p with nm := true }) (wr.setCell ⟨w.heap.size + 1, p, none⟩ (.bool true)) :=
  h.flag { bk p with nm := true } rfl 1 _ (by omega) (set_row (p := p) (q := { bk p with nm := true }) (f := Bk.nm) h.nm hp true rfl) (keep_row (w := w) (p := p) (q := { bk p with nm := true }) (d := 1) (f := Bk.lf) h.lf (by omega) rfl _) (keep_row (w := w) (p := p) (q := { bk p with nm := true }) (d := 1) (f := Bk.rc) h.rc (by omega) rfl _) (keep_row (w := w) (p := p) (q := { bk p with nm := true }) (d := 1) (f := Bk.dt) h.dt (by omega) rfl _)
theorem BT.setLf (h : BT w n bk wr) (hp : p < n) : BT w n (updB bk p { bk p with lf := true }) (wr.setCell ⟨w.heap.size + 2, p, none⟩ (.bool true)) :=
  h.flag { bk p with lf := true } rfl 2 _ (by omega) (keep_row (w := w) (p := p) (q := { bk p with lf := true }) (d := 2) (f := Bk.nm) h.nm (by omega) rfl _) (set_row (p := p) (q := { bk p with lf := true }) (f := Bk.lf) h.lf hp true rfl) (keep_row (w := w) (p := p) (q := { bk p with lf := true }) (d := 2) (f := Bk.rc) h.rc (by omega) rfl _) (keep_row (w := w) (p := p) (q := { bk p with lf := true }) (d := 2) (f := Bk.dt) h.dt (by omega) rfl _)
theorem BT.setRc (h : BT w n bk wr) (hp : p < n) : BT w n (updB bk p { bk p with rc := true }) (wr.setCell ⟨w.heap.size + 3, p, none⟩ (.bool true)) :=
  h.flag { bk p with rc := true } rfl 3 _ (by omega) (keep_row (w := w) (p := p) (q := { bk p with rc := true }) (d := 3) (f := Bk.nm) h.nm (by omega) rfl _) (keep_row (w := w) (p := p) (q := { bk p with rc := true }) (d := 3) (f := Bk.lf) h.lf (by omega) rfl _) (set_row (p := p) (q := { bk p with rc := true }) (f := Bk.rc) h.rc hp true rfl) (keep_row (w := w) (p := p) (q := { bk p with rc := true }) (d := 3) (f := Bk.dt) h.dt (by omega) rfl _)
theorem BT.setDt (h : BT w n bk wr) (hp : p < n) : BT w n (updB bk p { bk p with dt := true }) (wr.setCell ⟨w.heap.size + 4, p, none⟩ (.bool true)) :=
  h.flag { bk p with dt := true } rfl 4 _ (by omega) (keep_row (w := w) (p := p) (q := { bk p with dt := true }) (d := 4) (f := Bk.nm) h.nm (by omega) rfl _) (keep_row (w := w) (p := p) (q := { bk p with dt := true }) (d := 4) (f := Bk.lf) h.lf (by omega) rfl _) (keep_row (w := w) (p := p) (q := { bk p with dt := true }) (d := 4) (f := Bk.rc) h.rc (by omega) rfl _) (set_row (p := p) (q := { bk p with dt := true }) (f := Bk.dt) h.dt hp true rfl)

theorem BT.cells (h : BT w n bk wr) (hp : p < n) :
    (∃ v, wr.cell? ⟨w.heap.size, p * 7, none⟩ = some (.string (bk p).pr.name) ∧ wr.cell? ⟨w.heap.size, p * 7 + 1, none⟩ = some (.bool (bk p).pr.down) ∧ wr.cell? ⟨w.heap.size, p * 7 + 2, none⟩ = some (.bool (bk p).pr.unst) ∧ wr.cell? ⟨w.heap.size, p * 7 + 3, none⟩ = some (.bool (bk p).pr.exited) ∧
      wr.cell? ⟨w.heap.size, p * 7 + 4, none⟩ = some (.bool (bk p).pr.decided) ∧ wr.cell? ⟨w.heap.size, p * 7 + 5, none⟩ = some v ∧ wr.cell? ⟨w.heap.size, p * 7 + 6, none⟩ = some (.int .i64 (bk p).pr.since) ∧ (∀ j, wr.frozen? ⟨w.heap.size, j, none⟩ = false)) ∧
    wr.cell? ⟨w.heap.size + 1, p, none⟩ = some (.bool (bk p).nm) ∧ wr.cell? ⟨w.heap.size + 2, p, none⟩ = some (.bool (bk p).lf) ∧ wr.cell? ⟨w.heap.size + 3, p, none⟩ = some (.bool (bk p).rc) ∧ wr.cell? ⟨w.heap.size + 4, p, none⟩ = some (.bool (bk p).dt) ∧
    (∀ j, wr.frozen? ⟨w.heap.size + 1, j, none⟩ = false) ∧ (∀ j, wr.frozen? ⟨w.heap.size + 2, j, none⟩ = false) ∧ (∀ j, wr.frozen? ⟨w.heap.size + 3, j, none⟩ = false) ∧ (∀ j, wr.frozen? ⟨w.heap.size + 4, j, none⟩ = false) ∧ w.heap.size + 4 < wr.heap.size := by
  have fr : ∀ {g m : Nat}, Own wr g 4 m → ∀ j, wr.frozen? ⟨g, j, none⟩ = false := fun h j => by obtain ⟨c, hb, _⟩ := h; simp [World.frozen?, hb]
  exact ⟨h.tab.cells hp, h.nm.cell p hp, h.lf.cell p hp, h.rc.cell p hp, h.dt.cell p hp, fr h.nm.own, fr h.lf.own, fr h.rc.own, fr h.dt.own, h.dt.own.lt⟩
end

theorem bHear_of {bk bk' : Nat → Bk} {p : Nat} {x : Ev} (he : (x.kind.toList == endK) = false) (hp : x.proc = (p : Int) + 1) (h1 : ∀ i, i ≠ p → bk' i = bk i) (h2 : bk' p = bStep (bk p) x) : ∀ i, bk' i = bHear i x (bk i) := by
  intro i
  unfold bHear
  rw [if_neg (by rw [he]; simp)]
  by_cases e : i = p
  · subst e; rw [if_pos hp, h2]
  · rw [if_neg (by rw [hp]; omega), h1 i e]

theorem bt_close {w : World} {n : Nat} {es : List Ev} {k : Nat} {bk bk' : Nat → Bk} {W : World} {x : Ev} {p : Nat} (HT : Hid (∀ i, bkOf (es.drop k) i = bHear i x (bk i))) (he : (x.kind.toList == endK) = false) (hp : x.proc = (p : Int) + 1)
    (h : BT w n bk' W) (h1 : ∀ i, i ≠ p → bk' i = bk i) (h2 : bk' p = bStep (bk p) x) : BT w n (bkOf (es.drop k)) W :=
  h.congr fun i _ => by rw [HT.out]; exact bHear_of he hp h1 h2 i

/-- The five tables just made. -/
theorem bt_made (w : World) (n : Nat) : BT w n (fun _ => Bk.zero) (((((w.alloc (.cells (ZRow #[.string ⟨#[]⟩, .bool false, .bool false, .bool false, .bool false, .slice none 0 0, .int .i64 0] (n * 7)) 39)).alloc (.cells (ZRow #[.bool false] (n * 1)) 4)).alloc (.cells (ZRow #[.bool false] (n * 1)) 4)).alloc (.cells (ZRow #[.bool false] (n * 1)) 4)).alloc (.cells (ZRow #[.bool false] (n * 1)) 4)) := by
  have h0 := pinv_made 39 w n
  generalize e1 : w.alloc (.cells (ZRow #[.string ⟨#[]⟩, .bool false, .bool false, .bool false, .bool false, .slice none 0 0, .int .i64 0] (n * 7)) 39) = w1 at h0
  have b1 : Below w.heap.size w w1 := by rw [← e1]; exact (Below.refl _ _).alloc (Nat.le_refl _) _
  have s1 : w1.heap.size = w.heap.size + 1 := by rw [← e1]; simp
  have r1 := brow_made w1 n
  generalize e2 : w1.alloc (.cells (ZRow #[.bool false] (n * 1)) 4) = w2 at r1
  have b2 : Below w1.heap.size w1 w2 := by rw [← e2]; exact (Below.refl _ _).alloc (Nat.le_refl _) _
  have s2 : w2.heap.size = w.heap.size + 2 := by rw [← e2]; simp [s1]
  have r2 := brow_made w2 n
  generalize e3 : w2.alloc (.cells (ZRow #[.bool false] (n * 1)) 4) = w3 at r2
  have b3 : Below w2.heap.size w2 w3 := by rw [← e3]; exact (Below.refl _ _).alloc (Nat.le_refl _) _
  have s3 : w3.heap.size = w.heap.size + 3 := by rw [← e3]; simp [s2]
  have r3 := brow_made w3 n
  generalize e4 : w3.alloc (.cells (ZRow #[.bool false] (n * 1)) 4) = w4 at r3
  have b4 : Below w3.heap.size w3 w4 := by rw [← e4]; exact (Below.refl _ _).alloc (Nat.le_refl _) _
  have s4 : w4.heap.size = w.heap.size + 4 := by rw [← e4]; simp [s3]
  have r4 := brow_made w4 n
  generalize e5 : w4.alloc (.cells (ZRow #[.bool false] (n * 1)) 4) = w5 at r4
  have b5 : Below w4.heap.size w4 w5 := by rw [← e5]; exact (Below.refl _ _).alloc (Nat.le_refl _) _
  rw [s1] at r1
  rw [s2] at r2
  rw [s3] at r3
  rw [s4] at r4
  exact ⟨(((b1.trans (b2.mono (by omega))).trans (b3.mono (by omega))).trans (b4.mono (by omega))).trans (b5.mono (by omega)), (((h0.below b2).below b3).below b4).below b5, ((r1.below b3).below b4).below b5, (r2.below b4).below b5, r3.below b5, r4⟩

end Go.Proofs.Qxb6600401a
