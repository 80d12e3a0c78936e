/-
  PARTS OF THE LAW FnProcessesIgnoresInterleaving (4): counts, starts, the grouping.
-/
import Derived.Test.Qxb6600401aSame
import Derived.Test.Qxb6600401aGroup
namespace Go.Proofs.Qxb6600401a
open Go.RowKit

theorem hid {p : Prop} (h : p) : Hid p := h

/-- A row of m numbers. -/
def IntRow (c : Array Value) (m : Nat) (f : Nat → Nat) : Prop := c.size = m ∧ ∀ i, i < m → c[i]? = some (.int .i64 (f i))

theorem intRow_zero (m : Nat) : IntRow (ZRow #[.int .i64 0] (m * 1)) m (fun _ => 0) := by
  refine ⟨by rw [size_ZRow]; omega, fun i hi => ?_⟩
  unfold ZRow
  rw [getElem_madeCells _ _ _ (by omega)]
  simp [Nat.mod_one]

theorem IntRow.congr {c : Array Value} {m : Nat} {f g : Nat → Nat} (h : IntRow c m f) (e : ∀ i, i < m → f i = g i) : IntRow c m g := ⟨h.1, fun i hi => by rw [← e i hi]; exact h.2 i hi⟩

theorem IntRow.set {c : Array Value} {m : Nat} {f : Nat → Nat} (h : IntRow c m f) (p x : Nat) : IntRow (c.setIfInBounds p (.int .i64 x)) m (fun i => if i = p then x else f i) := by
  refine ⟨by simpa using h.1, fun i hi => ?_⟩
  rw [Array.getElem?_setIfInBounds]
  by_cases e : i = p
  · subst e; simp [h.1, hi]
  · rw [if_neg (fun q => e q.symm)]; simp only [if_neg e]; exact h.2 i hi

theorem own_iff {x : Ev} {p q : Nat} (he : (x.kind.toList == endK) = false) (hp : x.proc = (p : Int)) : own q x = decide (q = p) := by
  simp only [own, he, hp, Bool.not_false, Bool.true_and]
  by_cases e : q = p
  · subst e; simp
  · rw [decide_eq_false (by omega), decide_eq_false e]

theorem own_end {x : Ev} {q : Nat} (he : (x.kind.toList == endK) = true) : own q x = false := by simp [own, he]

/-- The counts, one event more. -/
theorem counts_step {es : List Ev} {k n p : Nat} {c : Array Value} (hk : k < es.length) (h : IntRow c (n + 1) (fun q => (filt (es.take k) q).length)) (he : ((es[k]).kind.toList == endK) = false) (hp : (es[k]).proc = (p : Int)) :
    IntRow (c.setIfInBounds p (.int .i64 ((filt (es.take k) p).length + 1 : Nat))) (n + 1) (fun q => (filt (es.take (k + 1)) q).length) := by
  refine (h.set p _).congr fun i _ => ?_
  rw [filt_take_succ es k i hk, own_iff he hp]
  by_cases e : i = p
  · subst e; simp
  · simp [e]

theorem counts_end {es : List Ev} {k n : Nat} {c : Array Value} (hk : k < es.length) (h : IntRow c (n + 1) (fun q => (filt (es.take k) q).length)) (he : ((es[k]).kind.toList == endK) = true) :
    IntRow c (n + 1) (fun q => (filt (es.take (k + 1)) q).length) := by
  refine h.congr fun i _ => ?_
  rw [filt_take_succ es k i hk, own_end he]
  simp

/-- Where each process's events begin, up to process l. -/
def StartRow (es : List Ev) (N : Nat) (d : Array Value) (l : Nat) : Prop := d.size = N + 1 ∧ ∀ p, 1 ≤ p → p < l → d[p]? = some (.int .i64 (S es p))

theorem StartRow.get {es : List Ev} {N : Nat} {d : Array Value} {l m : Nat} (h : StartRow es N d l) (hm : m ≤ N) : ∃ u, d[m]? = some u := ⟨d[m]'(by rw [h.1]; omega), by simp⟩

theorem StartRow.step {es : List Ev} {N : Nat} {d : Array Value} {l : Nat} (h : StartRow es N d l) (hl : l ≤ N) : StartRow es N (d.setIfInBounds l (.int .i64 (S es l))) (l + 1) := by
  refine ⟨by simpa using h.1, fun p h1 h2 => ?_⟩
  rw [Array.getElem?_setIfInBounds]
  by_cases e : p = l
  · subst e; simp [h.1]; omega
  · rw [if_neg (fun q => e q.symm)]; exact h.2 p h1 (by omega)

theorem S_one {es : List Ev} {n : Int} (h : ∀ i (hi : i < es.length), InRange n es[i]) : S es 1 = 0 := by
  have : filt es 0 = [] := by
    unfold filt
    apply List.filter_eq_nil_iff.2
    intro a ha ho
    obtain ⟨i, hi, rfl⟩ := List.getElem_of_mem ha
    have hr := h i hi
    simp only [own, Bool.and_eq_true, decide_eq_true_eq] at ho
    have hk : (es[i]).kind.toList ≠ endK := by intro q; rw [q] at ho; simp at ho
    have := (hr hk).1
    omega
  simp [S, this]

theorem S_total (es : List Ev) (l : Nat) : S es l ≤ es.length := by rw [← length_grp]; exact grp_le es l

theorem rangeAt_setCell_other {w : World} {b o : Nat} {cs : List Value} (h : w.rangeAt b o cs) (a : Addr) (u : Value) (ha : b ≠ a.block) : (w.setCell a u).rangeAt b o cs := fun j v hv => by
  rw [World.cell?_setCell_other _ _ _ _ (by intro e; apply ha; rw [e])]; exact h j v hv

/-- The grouping, event by event. -/
structure GInv (w3 : World) (es : List Ev) (N D G k : Nat) (wr : World) : Prop where
  below : Below w3.heap.size w3 wr
  ownD : Own wr D 3 (N + 1)
  start : ∀ p, 1 ≤ p → p ≤ N → wr.cell? ⟨D, p, none⟩ = some (.int .i64 (S es p + (filt (es.take k) p).length : Nat))
  ownG : Own wr G 42 (S es (N + 1) * 6)
  evs : ∀ p, 1 ≤ p → p ≤ N → ∀ j e, (filt (es.take k) p)[j]? = some e → ∃ v, wr.rangeAt G ((S es p + j) * 6) (evc e v) ∧ StrsAt w3 (fun _ => True) v e.nl e.tr

theorem GInv.skip {w3 : World} {es : List Ev} {N D G k : Nat} {wr : World} (h : GInv w3 es N D G k wr) (hk : k < es.length) (he : ((es[k]).kind.toList == endK) = true) : GInv w3 es N D G (k + 1) wr := by
  have e : ∀ p, filt (es.take (k + 1)) p = filt (es.take k) p := fun p => by rw [filt_take_succ es k p hk, own_end he]; simp
  exact ⟨h.below, h.ownD, fun p h1 h2 => by rw [e p]; exact h.start p h1 h2, h.ownG, fun p h1 h2 => by rw [e p]; exact h.evs p h1 h2⟩

theorem GInv.step {w3 : World} {es : List Ev} {N D G k p : Nat} {wr : World} (h : GInv w3 es N D G k wr) (hk : k < es.length) (he : ((es[k]).kind.toList == endK) = false) (hp : (es[k]).proc = (p : Int)) (hp1 : 1 ≤ p) (hpN : p ≤ N)
    (hD : w3.heap.size ≤ D) (hG : w3.heap.size ≤ G) (hDG : D ≠ G) (v : Value) (hv : StrsAt w3 (fun _ => True) v (es[k]).nl (es[k]).tr) :
    GInv w3 es N D G (k + 1) (((wr.drew).setCells G ((S es p + (filt (es.take k) p).length) * 6) (evc es[k] v)).setCell ⟨D, p, none⟩ (.int .i64 (S es p + (filt (es.take k) p).length + 1 : Nat))) := by
  have ho : ∀ q, own q es[k] = decide (q = p) := fun q => own_iff he hp
  have hf : ∀ q, filt (es.take (k + 1)) q = filt (es.take k) q ++ (if q = p then [es[k]] else []) := fun q => by rw [filt_take_succ es k q hk, ho]; simp
  have hlt := filt_take_lt es k p hk (by rw [ho]; simp)
  have hSN := S_lt es (show p < N + 1 by omega)
  have hthere : wr.there G ((S es p + (filt (es.take k) p).length) * 6) 6 := h.ownG.there (by omega)
  refine ⟨((below_setCells _ hG _ _ _ h.below.drew).setCell hD _), Own.setCell (Own.setCells _ _ _ _ (h.ownD.below (Below.refl _ _).drew)) _ _, fun q h1 h2 => ?_, Own.setCell (Own.setCells _ _ _ _ (h.ownG.below (Below.refl _ _).drew)) _ _, fun q h1 h2 j e hj => ?_⟩
  · by_cases e : q = p
    · subst e
      rw [hf, if_pos rfl]
      have hc := h.start q h1 h2
      have hc' : ((wr.drew).setCells G ((S es q + (filt (es.take k) q).length) * 6) (evc es[k] v)).cell? ⟨D, q, none⟩ = some (.int .i64 (S es q + (filt (es.take k) q).length : Nat)) := by
        rw [World.cell?_setCells_out _ _ _ _ _ (fun e => absurd e hDG)]; exact hc
      rw [World.cell?_setCell_same _ _ _ hc']
      simp [Nat.add_assoc]
    · rw [hf, if_neg e, World.cell?_setCell_other _ _ _ _ (by simp <;> omega), World.cell?_setCells_out _ _ _ _ _ (fun e => absurd e hDG)]
      simpa using h.start q h1 h2
  · rw [hf] at hj
    by_cases e : q = p
    · subst e
      rw [if_pos rfl] at hj
      by_cases hjl : j < (filt (es.take k) q).length
      · rw [List.getElem?_append_left hjl] at hj
        obtain ⟨u, hr, hs⟩ := h.evs q h1 h2 j _ hj
        exact ⟨u, rangeAt_setCell_other (World.rangeAt_setCells_apart ((World.rangeAt_drew _ _ _ _).2 hr) _ _ _ (by simp; omega)) _ _ (fun e => hDG e.symm), hs⟩
      · rw [List.getElem?_append_right (by omega)] at hj
        have hj0 : j = (filt (es.take k) q).length := by
          have := (List.getElem?_eq_some_iff.1 hj).1
          simp at this; omega
        subst hj0
        simp at hj
        subst hj
        exact ⟨v, rangeAt_setCell_other (World.rangeAt_setCells_same _ _ _ _ (by simpa using hthere)) _ _ (fun e => hDG e.symm), hv⟩
    · rw [if_neg e, List.append_nil] at hj
      obtain ⟨u, hr, hs⟩ := h.evs q h1 h2 j _ hj
      have hjl := (List.getElem?_eq_some_iff.1 hj).1
      have hle := filt_take_le es k q
      refine ⟨u, rangeAt_setCell_other (World.rangeAt_setCells_apart ((World.rangeAt_drew _ _ _ _).2 hr) _ _ _ ?_) _ _ (fun e => hDG e.symm), hs⟩
      rcases Nat.lt_or_gt_of_ne e with hq | hq
      · have := S_lt es hq
        simp; omega
      · have := S_lt es hq
        simp; omega

theorem ginv_start {w3 : World} {es : List Ev} {N : Nat} {c d g : Array Value} (hd : StartRow es N d (N + 1)) (hg : g.size = S es (N + 1) * 6) :
    GInv w3 es N (w3.heap.size + 1) (w3.heap.size + 2) 0 (((w3.alloc (.cells c 3)).alloc (.cells d 3)).alloc (.cells g 42)) := by
  have e1 : (w3.alloc (.cells c 3)).heap.size = w3.heap.size + 1 := by simp
  have e2 : ((w3.alloc (.cells c 3)).alloc (.cells d 3)).heap.size = w3.heap.size + 2 := by simp
  have o1 := own_alloc (w3.alloc (.cells c 3)) d 3
  rw [e1, hd.1] at o1
  have o2 := own_alloc ((w3.alloc (.cells c 3)).alloc (.cells d 3)) g 42
  rw [e2, hg] at o2
  refine ⟨(((Below.refl _ _).alloc (Nat.le_refl _) _).alloc (by simp) _).alloc (by simp; omega) _, o1.below ((Below.refl _ _).alloc (Nat.le_refl _) _), fun p h1 h2 => ?_, o2, fun p _ _ j e hj => ?_⟩
  · rw [World.cell?_alloc_past _ _ _ (by simp), World.cell?_alloc_at _ _ _ _ (by simp)]
    simpa [filt] using hd.2 p h1 (by omega)
  · simp [filt] at hj

/-- The grouped events lie in memory. -/
theorem ginv_done {w3 : World} {es : List Ev} {N D G : Nat} {n : Int} {wr : World} (hr : ∀ i (hi : i < es.length), InRange n es[i]) (h : GInv w3 es N D G es.length wr) : EvsAt wr (fun _ => True) (some ⟨G, 0, none⟩) (grp es (N + 1)) := by
  intro i hi
  obtain ⟨q, hq, j, hj, e1, e2⟩ := grp_place es (N + 1) i hi
  have hq1 : 1 ≤ q := by
    rcases Nat.eq_zero_or_pos q with h0 | h0
    · subst h0
      have := S_one hr
      simp only [S] at this
      omega
    · exact h0
  have hgj : (filt (es.take es.length) q)[j]? = some (filt es q)[j] := by rw [List.take_length]; exact List.getElem?_eq_getElem hj
  obtain ⟨v, hrg, hs⟩ := h.evs q hq1 (by omega) j _ hgj
  refine ⟨G, 0, rfl, v, ?_, ?_⟩
  · rw [e2, Nat.zero_add, e1]; exact hrg
  · rw [e2]; exact hs.below h.below

/-! ### The outputs are no longer than the events' -/
theorem stepPr_out (p : Pr) (e : Ev) (hp : p.out.length ≤ 1048576) (he : Modest e) : (stepPr p e).out.length ≤ 1048576 := by
  have hN : (stepName p e).out = p.out := by unfold stepName; split <;> rfl
  unfold stepPr stepKind
  repeat' split
  all_goals first | exact he | (show (stepName p e).out.length ≤ _; rw [hN]; exact hp)

theorem hear_out (i : Nat) (p : Pr) (e : Ev) (hp : p.out.length ≤ 1048576) (he : Modest e) : (hear i p e).out.length ≤ 1048576 := by
  unfold hear
  split
  · exact hp
  · split
    · exact stepPr_out p e hp he
    · exact hp

theorem foldl_out (i : Nat) : ∀ (es : List Ev) (p : Pr), p.out.length ≤ 1048576 → (∀ e ∈ es, Modest e) → (es.foldl (hear i) p).out.length ≤ 1048576
  | [], _, hp, _ => hp
  | e :: es, p, hp, h => foldl_out i es _ (hear_out i p e hp (h e (by simp))) (fun e' h' => h e' (by simp [h']))

theorem prOf_out {es : List Ev} (hm : ∀ i (h : i < es.length), Modest es[i]) (i : Nat) : (prOf es i).out.length ≤ 1048576 :=
  foldl_out i es _ (by simp [Pr.zero]) (fun e he => by obtain ⟨j, hj, rfl⟩ := List.getElem_of_mem he; exact hm j hj)

theorem all_grp {es : List Ev} {Q : Ev → Prop} (h : ∀ i (hi : i < es.length), Q es[i]) (m : Nat) : ∀ i (hi : i < (grp es m).length), Q (grp es m)[i] := fun i hi => by
  obtain ⟨j, hj, e⟩ := List.getElem_of_mem (mem_grp (List.getElem_mem hi))
  rw [← e]; exact h j hj

/-- A process of a table, in a later world, as the comparison wants it. -/
theorem PInv.late {t : TypeId} {w0 : World} {G n : Nat} {pr : Nat → Pr} {w1 wr : World} (h : PInv t w0 G n pr w1) (h01 : Below w0.heap.size w0 w1) (hB : Below w1.heap.size w1 wr) {p : Nat} (hp : p < n) :
    ∃ ao c, StrsAt wr (fun _ => True) (.slice ao (pr p).out.length c) (pr p).nl (pr p).out ∧ wr.cell? ⟨G, p * 7, none⟩ = some (.string (pr p).name) ∧ wr.cell? ⟨G, p * 7 + 1, none⟩ = some (.bool (pr p).down) ∧ wr.cell? ⟨G, p * 7 + 2, none⟩ = some (.bool (pr p).unst) ∧ wr.cell? ⟨G, p * 7 + 3, none⟩ = some (.bool (pr p).exited) ∧
      wr.cell? ⟨G, p * 7 + 4, none⟩ = some (.bool (pr p).decided) ∧ wr.cell? ⟨G, p * 7 + 5, none⟩ = some (.slice ao (pr p).out.length c) ∧ wr.cell? ⟨G, p * 7 + 6, none⟩ = some (.int .i64 (pr p).since) := by
  obtain ⟨ao, c, hs, _, h0, h1, h2, h3, h4, h5, h6⟩ := h.cellsIn hB hp
  exact ⟨ao, c, (hs.below h01).below hB, h0, h1, h2, h3, h4, h5, h6⟩

/-! ### Two contracts, the length under a name of its own -/
theorem toRec_len (ao : Option Addr) (P : Nat → Prop) (es : List Ev) (m cap : Nat) (w : World) (hlen : es.length = m) (hl : m ≤ 20000) (hm : ∀ i (h : i < es.length), Modest es[i])
    (hev : EvsAt w P ao es) :
    Calls Try.prog 11 #[.slice ao m cap] w fun e w' => e = .returned (.slice (some ⟨w.heap.size, 0, none⟩) m m) ∧ Below w.heap.size w w' ∧
      ∀ i (h : i < es.length), RcAt w' (fun _ => True) w.heap.size (i * 13) es[i] := by
  subst hlen
  exact toRec_any ao P es cap w hl hm hev

theorem zzprocs_len (n : Nat) (b : Nat) (es : List Ev) (m cap : Nat) (w : World) (hlen : es.length = m) (hn : n ≤ 65536) (hl : m ≤ 20000) (hin : ∀ i (h : i < es.length), InRange n es[i])
    (hev : ∀ i (h : i < es.length), RcAt w (fun _ => True) b (i * 13) es[i]) :
    Calls Try.prog 10 #[.int .i64 n, .slice (some ⟨b, 0, none⟩) m cap] w fun e w' => ∃ B, e = .returned (.slice (some ⟨B, 0, none⟩) n n) ∧ Below w.heap.size w w' ∧ PInv 36 w B n (prOf es) w' := by
  subst hlen
  exact zzprocs_any n b es cap w hn hl hin hev

end Go.Proofs.Qxb6600401a
