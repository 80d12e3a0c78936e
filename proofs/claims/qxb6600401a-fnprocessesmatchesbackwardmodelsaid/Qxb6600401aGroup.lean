/-
  THE PLAIN LAW: regrouping the events by process changes nothing that a process hears. No walk in sight.
-/
import Derived.Test.Qxb6600401aProcs
namespace Go.Proofs.Qxb6600401a

/-- An event that process p hears. -/
def own (p : Nat) (e : Ev) : Bool := !(e.kind.toList == endK) && decide (e.proc = (p : Int))

/-- The events that process p hears, in order. -/
def filt (es : List Ev) (p : Nat) : List Ev := es.filter (own p)

/-- How many processes before p hear. -/
def S (es : List Ev) : Nat → Nat
  | 0 => 0
  | p + 1 => S es p + (filt es p).length

/-- The events grouped, up to process p. -/
def grp (es : List Ev) : Nat → List Ev
  | 0 => []
  | p + 1 => grp es p ++ filt es p

theorem length_grp (es : List Ev) : ∀ p, (grp es p).length = S es p
  | 0 => rfl
  | p + 1 => by simp [grp, S, length_grp es p]

theorem S_le (es : List Ev) {p q : Nat} (h : p ≤ q) : S es p ≤ S es q := by
  induction q with
  | zero => obtain rfl : p = 0 := by omega
            exact Nat.le_refl _
  | succ q ih =>
    by_cases e : p = q + 1
    · subst e; exact Nat.le_refl _
    · have := ih (by omega); simp only [S]; omega

theorem S_lt (es : List Ev) {p q : Nat} (h : p < q) : S es p + (filt es p).length ≤ S es q := S_le es (p := p + 1) h

/-- Each place of the grouped list is a place of one process. -/
theorem grp_place (es : List Ev) : ∀ (p idx : Nat) (h : idx < (grp es p).length), ∃ q, q < p ∧ ∃ j, ∃ hj : j < (filt es q).length, idx = S es q + j ∧ (grp es p)[idx] = (filt es q)[j]
  | 0, idx, h => absurd h (Nat.not_lt_zero idx)
  | p + 1, idx, h => by
    by_cases hi : idx < (grp es p).length
    · obtain ⟨q, hq, j, hj, e1, e2⟩ := grp_place es p idx hi
      refine ⟨q, by omega, j, hj, e1, ?_⟩
      simp only [grp]
      rw [List.getElem_append_left hi]
      exact e2
    · have hl := length_grp es p
      have h' : idx < (grp es p ++ filt es p).length := h
      rw [List.length_append] at h'
      refine ⟨p, by omega, idx - (grp es p).length, by omega, by omega, ?_⟩
      simp only [grp]
      rw [List.getElem_append_right (by omega)]

theorem mem_grp {es : List Ev} {e : Ev} : ∀ {p : Nat}, e ∈ grp es p → e ∈ es
  | 0, h => absurd h (by simp [grp])
  | p + 1, h => by
    simp only [grp, List.mem_append] at h
    rcases h with h | h
    · exact mem_grp h
    · exact (List.mem_filter.1 h).1

/-! ### What a process hears -/
theorem hear_own {i : Nat} {e : Ev} (h : own (i + 1) e = false) (p : Pr) : hear i p e = p := by
  unfold hear
  by_cases hk : (e.kind.toList == endK) = true
  · rw [if_pos hk]
  · rw [if_neg hk]
    have hk' : (e.kind.toList == endK) = false := by simpa using hk
    simp only [own, hk', Bool.not_false, Bool.true_and, decide_eq_false_iff_not] at h
    rw [if_neg (by intro q; apply h; rw [q]; simp)]

theorem foldl_hear (i : Nat) : ∀ (es : List Ev) (p : Pr), es.foldl (hear i) p = (es.filter (own (i + 1))).foldl (hear i) p
  | [], _ => rfl
  | e :: es, p => by
    by_cases h : own (i + 1) e = true
    · rw [List.filter_cons_of_pos h, List.foldl_cons, List.foldl_cons]; exact foldl_hear i es _
    · have h' : own (i + 1) e = false := by simpa using h
      rw [List.filter_cons_of_neg h, List.foldl_cons, hear_own h']; exact foldl_hear i es _

theorem own_own {p q : Nat} {e : Ev} (h : own p e = true) (h' : own q e = true) : p = q := by
  simp only [own, Bool.and_eq_true, decide_eq_true_eq] at h h'
  have := h.2.symm.trans h'.2
  omega

theorem filter_filt (es : List Ev) (p q : Nat) : (filt es q).filter (own p) = if q = p then filt es p else [] := by
  unfold filt
  by_cases e : q = p
  · subst e; rw [if_pos rfl, List.filter_filter]; simp
  · rw [if_neg e, List.filter_filter]
    apply List.filter_eq_nil_iff.2
    intro a _ h
    simp only [Bool.and_eq_true] at h
    exact e (own_own h.2 h.1)

theorem filter_grp (es : List Ev) (p : Nat) : ∀ m, (grp es m).filter (own p) = if p < m then filt es p else []
  | 0 => by simp [grp]
  | m + 1 => by
    simp only [grp, List.filter_append, filter_grp es p m, filter_filt]
    by_cases e : m = p
    · subst e; simp
    · by_cases h : p < m
      · rw [if_pos h, if_neg e, if_pos (by omega)]; simp
      · rw [if_neg h, if_neg e, if_neg (by omega)]; rfl

/-- THE PLAIN LAW. -/
theorem prOf_grp (es : List Ev) (n i : Nat) (h : i < n) : prOf (grp es (n + 1)) i = prOf es i := by
  unfold prOf
  rw [foldl_hear i (grp es (n + 1)), foldl_hear i es, filter_grp, if_pos (by omega)]
  rfl

/-! ### The counts, event by event -/
theorem filt_take_succ (es : List Ev) (k p : Nat) (h : k < es.length) : filt (es.take (k + 1)) p = filt (es.take k) p ++ (if own p es[k] = true then [es[k]] else []) := by
  unfold filt
  rw [List.take_succ_eq_append_getElem h, List.filter_append]
  by_cases ho : own p es[k] = true
  · rw [if_pos ho, List.filter_cons_of_pos ho]; rfl
  · rw [if_neg ho, List.filter_cons_of_neg ho]; rfl

theorem filt_take_le (es : List Ev) (k p : Nat) : (filt (es.take k) p).length ≤ (filt es p).length := by
  have : filt es p = filt (es.take k) p ++ filt (es.drop k) p := by
    unfold filt; rw [← List.filter_append, List.take_append_drop]
  rw [this, List.length_append]
  omega

theorem filt_take_lt (es : List Ev) (k p : Nat) (h : k < es.length) (ho : own p es[k] = true) : (filt (es.take k) p).length < (filt es p).length := by
  have h1 := filt_take_le es (k + 1) p
  rw [filt_take_succ es k p h, if_pos ho] at h1
  simp at h1
  omega

theorem filt_length_le (es : List Ev) (p : Nat) : (filt es p).length ≤ es.length := List.length_filter_le _ _

theorem grp_length_le (es : List Ev) : ∀ m, (grp es m).length ≤ (es.filter (fun e => decide (e.proc < (m : Int)))).length + 0
  | 0 => by simp [grp]
  | m + 1 => by
    have ih := grp_length_le es m
    have key : ∀ l : List Ev, (l.filter (own m)).length + (l.filter (fun e => decide (e.proc < (m : Int)))).length ≤ (l.filter (fun e => decide (e.proc < ((m + 1 : Nat) : Int)))).length := by
      intro l
      induction l with
      | nil => simp
      | cons a l ihl =>
        by_cases h1 : own m a = true
        · have h1' : a.proc = (m : Int) := by simp only [own, Bool.and_eq_true, decide_eq_true_eq] at h1; exact h1.2
          rw [List.filter_cons_of_pos h1, List.filter_cons_of_neg (by simp; omega), List.filter_cons_of_pos (by simp; omega)]
          simp only [List.length_cons]; omega
        · rw [List.filter_cons_of_neg h1]
          by_cases h2 : a.proc < (m : Int)
          · rw [List.filter_cons_of_pos (by simpa using h2), List.filter_cons_of_pos (by simp; omega)]
            simp only [List.length_cons]; omega
          · rw [List.filter_cons_of_neg (by simpa using h2)]
            by_cases h3 : a.proc < ((m + 1 : Nat) : Int)
            · rw [List.filter_cons_of_pos (by simpa using h3)]; simp only [List.length_cons]; omega
            · rw [List.filter_cons_of_neg (by simpa using h3)]; omega
    have := key es
    simp only [grp, List.length_append, filt] at *
    omega

theorem grp_le (es : List Ev) (m : Nat) : (grp es m).length ≤ es.length := by
  have h1 := grp_length_le es m
  have h2 := List.length_filter_le (fun e : Ev => decide (e.proc < (m : Int))) es
  omega

end Go.Proofs.Qxb6600401a
