/-
  PARTS OF THE LAW FnProcessesRecoverClearsLife (5): the append of one event; what a Recover does.
-/
import Derived.Test.Qxb6600401aInterParts
namespace Go.Proofs.Qxb6600401a
open Go.RowKit

theorem flat6 {α β : Type} (f : α → List β) (hf : ∀ a, (f a).length = 6) : ∀ (l : List α) (i j : Nat), j < 6 → (l.flatMap f)[i * 6 + j]? = (l[i]?).bind (fun a => (f a)[j]?)
  | [], i, j, _ => by simp
  | a :: l, 0, j, hj => by
    rw [List.flatMap_cons, Nat.zero_mul, Nat.zero_add, List.getElem?_append_left (by rw [hf]; exact hj)]
    simp
  | a :: l, i + 1, j, hj => by
    rw [List.flatMap_cons, List.getElem?_append_right (by rw [hf]; omega), hf, show (i + 1) * 6 + j - 6 = i * 6 + j by omega, flat6 f hf l i j hj]
    simp

theorem length_flat6 {α β : Type} (f : α → List β) (hf : ∀ a, (f a).length = 6) : ∀ (l : List α), (l.flatMap f).length = l.length * 6
  | [] => rfl
  | a :: l => by rw [List.flatMap_cons, List.length_append, hf, length_flat6 f hf l, List.length_cons]; omega

theorem pairs_aux {w : World} {P : Nat → Prop} {ao : Option Addr} : ∀ (es : List Ev) (s : Nat), (∀ i (h : i < es.length), ∃ b o, ao = some ⟨b, o, none⟩ ∧ EvAt w P b (o + (s + i) * 6) es[i]) → ∃ zs : List (Ev × Value), zs.map (·.1) = es ∧
    ∀ i (h : i < zs.length), ∃ b o, ao = some ⟨b, o, none⟩ ∧ w.rangeAt b (o + (s + i) * 6) (evc zs[i].1 zs[i].2) ∧ StrsAt w P zs[i].2 zs[i].1.nl zs[i].1.tr
  | [], _, _ => ⟨[], rfl, fun i h => absurd h (Nat.not_lt_zero i)⟩
  | e :: es, s, h => by
    obtain ⟨zs, e1, h1⟩ := pairs_aux es (s + 1) (fun i hi => by
      obtain ⟨b, o, ha, he⟩ := h (i + 1) (by simpa using hi)
      exact ⟨b, o, ha, by rw [show s + 1 + i = s + (i + 1) by omega]; simpa using he⟩)
    obtain ⟨b, o, ha, v, hr, hs⟩ := h 0 (by simp)
    refine ⟨(e, v) :: zs, by simp [e1], fun i hi => ?_⟩
    cases i with
    | zero => exact ⟨b, o, ha, hr, hs⟩
    | succ i =>
      obtain ⟨b', o', ha', hr', hs'⟩ := h1 i (by simpa using hi)
      rw [show s + 1 + i = s + (i + 1) by omega] at hr'
      exact ⟨b', o', ha', hr', hs'⟩

/-- The events with the values of their Trusted. -/
theorem EvsAt.pairs {w : World} {P : Nat → Prop} {ao : Option Addr} {es : List Ev} (h : EvsAt w P ao es) : ∃ zs : List (Ev × Value), zs.map (·.1) = es ∧
    ∀ i (h : i < zs.length), ∃ b o, ao = some ⟨b, o, none⟩ ∧ w.rangeAt b (o + i * 6) (evc zs[i].1 zs[i].2) ∧ StrsAt w P zs[i].2 zs[i].1.nl zs[i].1.tr := by
  obtain ⟨zs, e1, h1⟩ := pairs_aux es 0 (fun i hi => by rw [Nat.zero_add]; exact h i hi)
  exact ⟨zs, e1, fun i hi => by have := h1 i hi; rwa [Nat.zero_add] at this⟩

theorem evc_len (z : Ev × Value) : (evc z.1 z.2).length = 6 := rfl

theorem info_42 : ∃ i, Try.prog.info? 42 = some i ∧ i.zero = some (.agg #[.int .i64 0, .int .i64 0, .string ⟨#[]⟩, .string ⟨#[]⟩, .bool false, .slice none 0 0]) ∧ i.size = 6 ∧ i.bytes = 80 := by
  obtain ⟨i, hi, hzz⟩ := Option.map_eq_some_iff.1 Try.info42
  simp only [Prod.mk.injEq] at hzz
  exact ⟨i, hi, hzz.1, hzz.2.1, hzz.2.2⟩

/-- The append of one event to the copied events, met by its text. -/
theorem append_ev (s x : Operand) {ops : Array Oper} {rest : List Oper} {dst : Option Tmp} {ty : TypeId} {pos : String} {after : Array Edge} {a : Act} {w : World} {Q : Exit → Act → World → Prop}
    (H : ∃ (ao : Option Addr) (es : List Ev) (ad : Addr) (c : Nat) (e : Ev) (ta : Option Addr) (tl tc : Nat), a.eval s = .slice ao es.length es.length ∧ (ao = none → es = []) ∧ EvsAt w (fun _ => True) ao es ∧ es.length ≤ 19000 ∧
      a.eval x = .slice (some ad) 1 c ∧ (∀ j u, (evc e (.slice ta tl tc))[j]? = some u → w.cell? (ad.add j) = some u) ∧ StrsAt w (fun _ => True) (.slice ta tl tc) e.nl e.tr ∧
      ∀ g w' cap', Below w.heap.size w w' → EvsAt w' (fun _ => True) (some ⟨g, 0, none⟩) (es ++ [e]) → wpList Try.prog ops Q rest (a.put dst (.slice (some ⟨g, 0, none⟩) (es.length + 1) cap')) w') :
    wpList Try.prog ops Q ({ dst := dst, op := .call { callee := Callee.builtin Builtin.append, args := #[s, x], argTypes := #[22, 22] }, type := ty, pos := pos, after := after, guard := none } :: rest) a w := by
  obtain ⟨ao, es, ad, c, e, ta, tl, tc, hs, hnone, hev, hl, hx, hc, hst, hK⟩ := H
  obtain ⟨zs, hz, hzs⟩ := hev.pairs
  have hlz : zs.length = es.length := by rw [← hz]; simp
  obtain ⟨i, hi, hzero, hsize, hbytes⟩ := info_42
  refine wpList_append_grows w rfl s x 22 rfl 42 i _ 6 80 Try.underlying22 hi hzero hsize hbytes rfl (by omega) ao es.length es.length (zs.flatMap fun z => evc z.1 z.2) hs (fun h => by rw [hnone h]; exact ⟨rfl, rfl⟩)
    (by rw [length_flat6 _ evc_len, hlz]) ?_ ad 1 c (evc e (.slice ta tl tc)) hx rfl hc ?_ (by omega) (by unfold maxLen; omega) (by omega) ?_
  · intro b hb j u hj
    have hjl : j < zs.length * 6 := by have := (List.getElem?_eq_some_iff.1 hj).1; rwa [length_flat6 _ evc_len] at this
    have hj6 : j = j / 6 * 6 + j % 6 := by omega
    rw [hj6, flat6 _ evc_len _ _ _ (by omega), List.getElem?_eq_getElem (show j / 6 < zs.length by omega)] at hj
    obtain ⟨b', o', e', hr, _⟩ := hzs (j / 6) (by omega)
    rw [hb] at e'
    obtain rfl := Option.some.inj e'
    rw [Addr.add_mid]
    have := hr (j % 6) u hj
    rwa [Nat.add_assoc, ← hj6] at this
  · intro u hu
    have := Array.all_eq_true_iff_forall_mem.1 (evc_one e ta tl tc) u (by simpa using hu)
    exact this
  · intro v' w' hown hg
    have hB : Below w.heap.size w w' := (Below.refl _ _).grown hg (Nat.le_refl _) (fun k h => by cases h)
    obtain ⟨_, hcase⟩ := hown
    rcases hcase with ⟨_, h0⟩ | ⟨g, cap', cur, rfl, _, hh, _, _, _, htake⟩
    · omega
    · refine hK g w' cap' hB ?_
      have hall : zs.flatMap (fun z => evc z.1 z.2) ++ evc e (.slice ta tl tc) = (zs ++ [(e, Value.slice ta tl tc)]).flatMap (fun z => evc z.1 z.2) := by simp
      have hes : es ++ [e] = (zs ++ [(e, Value.slice ta tl tc)]).map (·.1) := by simp [hz]
      have hstr : ∀ i (h : i < (zs ++ [(e, Value.slice ta tl tc)]).length), StrsAt w' (fun _ => True) (zs ++ [(e, Value.slice ta tl tc)])[i].2 (zs ++ [(e, Value.slice ta tl tc)])[i].1.nl (zs ++ [(e, Value.slice ta tl tc)])[i].1.tr := by
        intro i hi'
        by_cases cz : i < zs.length
        · rw [List.getElem_append_left cz]
          obtain ⟨_, _, _, _, hs'⟩ := hzs i cz
          exact hs'.below hB
        · obtain rfl : i = zs.length := by simp at hi'; omega
          rw [List.getElem_append_right (Nat.le_refl _)]
          simpa using hst.below hB
      rw [hall] at htake
      rw [hes]
      have hl1 : (zs ++ [(e, Value.slice ta tl tc)]).length = es.length + 1 := by simp [hlz]
      generalize zs ++ [(e, Value.slice ta tl tc)] = ys at *
      intro i hi'
      have hi'' : i < ys.length := by simpa using hi'
      refine ⟨g, 0, rfl, (ys[i]).2, fun j u hj => ?_, by simpa using hstr i hi''⟩
      have hj6 : j < 6 := by have := (List.getElem?_eq_some_iff.1 hj).1; simpa using this
      have hget : cur[i * 6 + j]? = some u := by
        have h1 : (cur.toList.take ((es.length + 1) * 6))[i * 6 + j]? = some u := by
          rw [htake, flat6 _ evc_len _ _ _ hj6, List.getElem?_eq_getElem hi'']
          simpa using hj
        rw [List.getElem?_take_of_lt (by omega)] at h1
        simpa using h1
      show w'.cell? ⟨g, 0 + i * 6 + j, none⟩ = some u
      rw [Nat.zero_add]
      simp [World.cell?, hh, hget]

/-! ### What a Recover without a name does -/
/-- The appended event. -/
def recEv (k : Nat) : Ev := ⟨0, k, ⟨#[]⟩, ⟨#[114, 101, 99, 111, 118, 101, 114]⟩, false, true, []⟩

theorem recEv_inRange {k n : Nat} (h1 : 1 ≤ k) (h2 : k ≤ n) : InRange n (recEv k) := fun _ => ⟨by simp [recEv]; omega, by simp [recEv]; omega⟩

theorem prOf_rec_other (es : List Ev) {k i : Nat} (h : i + 1 ≠ k) : prOf (es ++ [recEv k]) i = prOf es i := by
  unfold prOf
  rw [List.foldl_append]
  generalize es.foldl (hear i) Pr.zero = p
  show hear i p (recEv k) = p
  unfold hear
  split
  · rfl
  · rw [if_neg (by simp [recEv]; omega)]

theorem prOf_rec_same (es : List Ev) {k i : Nat} (h : i + 1 = k) : prOf (es ++ [recEv k]) i = { prOf es i with down := false, decided := false } := by
  unfold prOf
  rw [List.foldl_append]
  generalize es.foldl (hear i) Pr.zero = p
  show hear i p (recEv k) = _
  unfold hear
  rw [if_neg (by simp [recEv]), if_pos (by simp [recEv]; omega)]
  simp [stepPr, stepName, stepKind, recEv]

end Go.Proofs.Qxb6600401a
