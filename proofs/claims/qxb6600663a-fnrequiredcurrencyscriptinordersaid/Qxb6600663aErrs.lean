/-
  THE LIST OF ERRORS IN MEMORY; Add (31), Required (30), RequiredCurrency (23).
-/
import Derived.Test.Qxb6600663aCur
namespace Go.Proofs.Qxb6600663a
open Go.RowKit

abbrev msgReq : ByteArray := { data := #[105, 115, 32, 114, 101, 113, 117, 105, 114, 101, 100] }
abbrev msgBad : ByteArray := { data := #[109, 117, 115, 116, 32, 98, 101, 32, 97, 110, 32, 73, 83, 79, 32, 52, 50, 49, 55, 32, 99, 111, 100, 101, 58, 32, 116, 104, 114, 101, 101, 32, 117, 112, 112, 101, 114, 45, 99, 97, 115, 101, 32, 108, 101, 116, 116, 101, 114, 115] }

/-- One field error. -/
structure FE where
  field : ByteArray
  msg : ByteArray

abbrev fcells (f : FE) : List Value := [.string f.field, .string f.msg]

/-- The list behind the pointer ⟨E, 0⟩: the value v, the errors fs, in a row of the call's own from 'base' on. -/
structure ErrsIn (w : World) (E base : Nat) (v : Value) (fs : List FE) : Prop where
  ptr : w.heap[E]? = some (.cells #[v] 37 (0, 0))
  row : w.ownsRow base 39 2 v fs.length (fs.flatMap fcells)

/-- What a call leaves alone: all but the pointer's cell and the list's own row. -/
structure Keep (w w' : World) (E : Nat) (v : Value) : Prop where
  os : w'.os = w.os
  tape : w'.tape = w.tape
  output : w'.output = w.output
  size : w.heap.size ≤ w'.heap.size
  block : ∀ k, k < w.heap.size → k ≠ E → some k ≠ v.ownBlock → w'.heap[k]? = w.heap[k]?

theorem Keep.refl (w : World) (E : Nat) (v : Value) : Keep w w E v := ⟨rfl, rfl, rfl, Nat.le_refl _, fun _ _ _ _ => rfl⟩

theorem ownBlock_ge {w : World} {base n : Nat} {v : Value} {xs : List Value} (h : w.ownsRow base 39 2 v n xs) {k : Nat} (hk : v.ownBlock = some k) : base ≤ k ∧ ∃ cur, w.heap[k]? = some (.cells cur 39 (0, 0)) := by
  rcases h.2 with ⟨rfl, _⟩ | ⟨g, cap, cur, rfl, hb, hh, _⟩
  · simp [Value.ownBlock] at hk
  · simp [Value.ownBlock] at hk
    subst hk
    exact ⟨hb, cur, hh⟩

theorem Keep.below {w w' : World} {E base B n : Nat} {v : Value} {xs : List Value} (h : Keep w w' E v) (hr : w.ownsRow base 39 2 v n xs) (hE : B ≤ E) (hb : B ≤ base) (hB : B ≤ w.heap.size) : Below B w w' :=
  ⟨h.os, h.tape, h.output, h.size, fun k hk => h.block k (by omega) (by omega) (fun e => by have := (ownBlock_ge hr e.symm).1; omega)⟩

/-- A block of another type is left alone. -/
theorem Keep.other {w w' : World} {E base n : Nat} {v : Value} {xs : List Value} (h : Keep w w' E v) (hr : w.ownsRow base 39 2 v n xs) {k : Nat} {c : Array Value} {t : TypeId} {fr : Nat × Nat} (hk : w.heap[k]? = some (.cells c t fr)) (ht : t ≠ 39) (hE : k ≠ E) : w'.heap[k]? = some (.cells c t fr) := by
  rw [h.block k (Array.getElem?_eq_some_iff.1 hk).1 hE (fun e => by
    obtain ⟨_, cur, hc⟩ := ownBlock_ge hr e.symm
    rw [hk] at hc
    simp at hc
    exact ht hc.2.1)]
  exact hk

theorem info_39 : ∃ i, Try.prog.info? 39 = some i ∧ i.zero = some (.agg #[.string ⟨#[]⟩, .string ⟨#[]⟩]) ∧ i.size = 2 ∧ i.bytes = 32 := by
  have h : (Try.prog.info? 39).map (fun i => (i.zero, i.size, i.bytes)) = some (some (.agg #[.string ⟨#[]⟩, .string ⟨#[]⟩]), 2, 32) := by kernel_rfl
  obtain ⟨i, hi, hzz⟩ := Option.map_eq_some_iff.1 h
  simp only [Prod.mk.injEq] at hzz
  exact ⟨i, hi, hzz.1, hzz.2.1, hzz.2.2⟩

/-- append(*e, FieldError{..}), met by its text. -/
theorem app_err (s x : Operand) {ops : Array Oper} {rest : List Oper} {dst : Option Tmp} {ty : TypeId} {pos : String} {after : Array Edge} {a : Act} {w : World} {Q : Exit → Act → World → Prop}
    (H : ∃ (base : Nat) (v : Value) (fs : List FE) (ad : Addr) (c : Nat) (f : FE), a.eval s = v ∧ w.ownsRow base 39 2 v fs.length (fs.flatMap fcells) ∧ a.eval x = .slice (some ad) 1 c ∧ (∀ j u, (fcells f)[j]? = some u → w.cell? (ad.add j) = some u) ∧ fs.length ≤ 1000000 ∧ base ≤ w.heap.size ∧
      ∀ v' w', w'.ownsRow base 39 2 v' (fs ++ [f]).length ((fs ++ [f]).flatMap fcells) → w.grownBy w' v.ownBlock → wpList Try.prog ops Q rest (a.put dst v') w') :
    wpList Try.prog ops Q ({ dst := dst, op := .call { callee := Callee.builtin Builtin.append, args := #[s, x], argTypes := #[37, 37] }, type := ty, pos := pos, after := after, guard := none } :: rest) a w := by
  obtain ⟨base, v, fs, ad, c, f, hs, hown, hx, hc, hn, hb, hK⟩ := H
  obtain ⟨i, hi, hz, hsize, hby⟩ := info_39
  refine wpList_append_own w rfl s x 37 rfl base 39 i _ 2 32 Try.underlying37 hi hz hsize hby rfl (by omega) v fs.length _ hs hown ad 1 c (fcells f) hx rfl hc (by intro u hu; simp at hu; rcases hu with rfl | rfl <;> rfl) (by unfold maxLen; omega) (by omega) hb ?_
  intro v' w' h1 h2 _
  refine hK v' w' ?_ h2
  have e1 : (fs ++ [f]).length = fs.length + 1 := by simp
  have e2 : (fs ++ [f]).flatMap fcells = fs.flatMap fcells ++ fcells f := by simp
  rw [e1, e2]
  exact h1

theorem cell_one {w : World} {E : Nat} {v : Value} {t : TypeId} (h : w.heap[E]? = some (.cells #[v] t (0, 0))) : w.cell? ⟨E, 0, none⟩ = some v := by simp [World.cell?, h]
theorem frozen_one {w : World} {E : Nat} {v : Value} {t : TypeId} (h : w.heap[E]? = some (.cells #[v] t (0, 0))) : w.frozen? ⟨E, 0, none⟩ = false := by simp [World.frozen?, h]

theorem row_kept {w w' : World} {base n : Nat} {v : Value} {xs : List Value} (h : w.ownsRow base 39 2 v n xs) (he : ∀ (k : Nat) (c : Array Value), w.heap[k]? = some (Obj.cells c 39 (0, 0)) → w'.heap[k]? = w.heap[k]?) : w'.ownsRow base 39 2 v n xs := by
  refine ⟨h.1, ?_⟩
  rcases h.2 with h2 | ⟨g, cap, cur, hv, hb, hh, rest⟩
  · exact .inl h2
  · exact .inr ⟨g, cap, cur, hv, hb, by rw [he g cur hh]; exact hh, rest⟩

set_option maxHeartbeats 1000000 in
theorem add_any (w : World) (E base : Nat) (v : Value) (fs : List FE) (f : FE) (h : ErrsIn w E base v fs) (hn : fs.length ≤ 1000000) (hb : base ≤ w.heap.size) :
    Calls Try.prog 31 #[.pointer (some ⟨E, 0, none⟩), .string f.field, .string f.msg] w fun e w' => e = .returned (.tuple #[]) ∧ ∃ v', ErrsIn w' E base v' (fs ++ [f]) ∧ Keep w w' E v := by
  refine hideR fun R' hR => ?_
  have hEc := cell_one h.ptr
  have hEl : E < w.heap.size := (Array.getElem?_eq_some_iff.1 h.ptr).1
  have HP := hid h.ptr
  have HO := hid h.row
  clear h
  go_enter Try.func31, Try.ntmps31
  go_wp2_with (refine app_err (.tmp 9) (.tmp 13) ?_)
  refine ⟨base, v, fs, ⟨w.heap.size, 0, none⟩, 1, f, rfl, HO.out.alloc _, rfl, ?_, hn, by simp; omega, ?_⟩
  · intro j u hj
    rw [Addr.add_mid, Nat.zero_add, World.cell?_alloc_at _ _ _ _ rfl, ← hj]
    simp
  intro v' w' hown hg
  have HEn : Hid (some E ≠ v.ownBlock) := fun e => by
    obtain ⟨_, cur, hc⟩ := ownBlock_ge HO.out e.symm
    rw [HP.out] at hc
    simp at hc
  have HP' : Hid (w'.heap[E]? = some (.cells #[v] 37 (0, 0))) := by
    show _ = _
    rw [hg.block E (by simp; omega) HEn.out, Below.heap_alloc _ _ _ hEl]
    exact HP.out
  have hc' := cell_one HP'.out
  have hf' := frozen_one HP'.out
  have HF : Hid (ErrsIn (w'.setCell ⟨E, 0, none⟩ v') E base v' (fs ++ [f]) ∧ Keep w (w'.setCell ⟨E, 0, none⟩ v') E v) := by
    refine ⟨⟨?_, ?_⟩, ⟨hg.os, hg.tape, hg.output, ?_, ?_⟩⟩
    · simp [World.setCell, Array.getElem?_modify, HP'.out]
    · refine row_kept hown (fun k c hk => Below.heap_setCell _ _ _ _ (fun e => ?_))
      rw [show k = E from e, HP'.out] at hk
      simp at hk
    · have := hg.size
      simp [World.setCell] at this ⊢
      omega
    · intro k hk hkE hkv
      rw [Below.heap_setCell _ _ _ _ hkE, hg.block k (by simp; omega) hkv, Below.heap_alloc _ _ _ hk]
  clear hown hg
  obtain ⟨ao, l, c, rfl⟩ : ∃ ao l c, v' = .slice ao l c := by
    rcases HF.out.1.row.2 with ⟨e, _⟩ | ⟨g, cap, cur, e, _⟩
    · exact ⟨_, _, _, e⟩
    · exact ⟨_, _, _, e⟩
  go_wp2
  go_end0
  exact hR.out _ _ ⟨rfl, _, HF.out.1, HF.out.2⟩

theorem required_any (w : World) (E base : Nat) (v : Value) (fs : List FE) (field : ByteArray) (h : ErrsIn w E base v fs) (hn : fs.length ≤ 1000000) (hb : base ≤ w.heap.size) :
    Calls Try.prog 30 #[.pointer (some ⟨E, 0, none⟩), .string field] w fun e w' => e = .returned (.tuple #[]) ∧ ∃ v', ErrsIn w' E base v' (fs ++ [⟨field, msgReq⟩]) ∧ Keep w w' E v := by
  refine hideR fun R' hR => ?_
  have HC := hid (add_any w E base v fs ⟨field, msgReq⟩ h hn hb)
  clear h
  go_enter Try.func30, Try.ntmps30
  go_wp2_with fail
  refine HC.out.mono ?_
  rintro e w' ⟨rfl, hf⟩
  have HF := hid hf
  clear hf
  go_wp2
  go_end0
  exact hR.out _ _ ⟨rfl, HF.out⟩

/-- Whether a text is a code. -/
def curB (s : ByteArray) : Bool := s.size == 3 && s.data.toList.all (fun b => decide (65 ≤ b.toNat) && decide (b.toNat ≤ 90))

theorem curB_iff (s : ByteArray) : curB s = true ↔ CurOk s := by
  unfold curB CurOk isUp
  simp only [Bool.and_eq_true, beq_iff_eq, List.all_eq_true, decide_eq_true_eq]
  constructor
  · rintro ⟨h1, h2⟩
    exact ⟨h1, fun i h => h2 s[i] (by
      have : s.data.toList[i]'(by simpa using h) = s[i] := rfl
      rw [← this]
      exact List.getElem_mem _)⟩
  · rintro ⟨h1, h2⟩
    refine ⟨h1, fun b hb => ?_⟩
    obtain ⟨i, hi, rfl⟩ := List.getElem_of_mem hb
    exact h2 i (by simpa using hi)

/-- What RequiredCurrency adds. -/
def newErr (present : Bool) (text field : ByteArray) : List FE := if present = false then [⟨field, msgReq⟩] else if curB text = true then [] else [⟨field, msgBad⟩]

theorem reqCur_nil (w : World) (E base : Nat) (v : Value) (fs : List FE) (field text : ByteArray) (h : ErrsIn w E base v fs) (hn : fs.length ≤ 1000000) (hb : base ≤ w.heap.size) :
    Calls Try.prog 23 #[.pointer (some ⟨E, 0, none⟩), .string field, .pointer none] w fun e w' => e = .returned (.tuple #[]) ∧ ∃ v', ErrsIn w' E base v' (fs ++ newErr false text field) ∧ Keep w w' E v := by
  refine hideR fun R' hR => ?_
  have HC := hid (required_any w E base v fs field h hn hb)
  clear h
  go_enter Try.func23, Try.ntmps23
  go_wp2_with fail
  refine HC.out.mono ?_
  rintro e w' ⟨rfl, hf⟩
  have HF := hid hf
  clear hf
  go_wp2
  go_end0
  exact hR.out _ _ ⟨rfl, HF.out⟩

set_option maxHeartbeats 1000000 in
theorem reqCur_some (w : World) (E base : Nat) (v : Value) (fs : List FE) (field text : ByteArray) (T : Nat) (h : ErrsIn w E base v fs) (hn : fs.length ≤ 1000000) (hb : base ≤ w.heap.size) (hT : w.cell? ⟨T, 0, none⟩ = some (.string text)) :
    Calls Try.prog 23 #[.pointer (some ⟨E, 0, none⟩), .string field, .pointer (some ⟨T, 0, none⟩)] w fun e w' => e = .returned (.tuple #[]) ∧ ∃ v', ErrsIn w' E base v' (fs ++ newErr true text field) ∧ Keep w w' E v := by
  refine hideR fun R' hR => ?_
  have HC := hid (add_any w E base v fs ⟨field, msgBad⟩ h hn hb)
  have HE := hid h
  clear h
  go_enter Try.func23, Try.ntmps23
  go_wp2_with fail
  refine (currency_any text w).mono ?_
  rintro e w1 ⟨r, rfl, hw, hr⟩
  rw [hw]
  have hrb : curB text = r := by
    have := (curB_iff text).trans hr.symm
    cases r <;> cases hcb : curB text <;> simp_all
  clear hr hw
  have HR := hid hrb
  clear hrb
  cases r with
  | true =>
    go_wp2
    go_end0
    exact hR.out _ _ ⟨rfl, v, by simp [newErr, HR.out]; exact HE.out, Keep.refl _ _ _⟩
  | false =>
    go_wp2_with fail
    refine HC.out.mono ?_
    rintro e w' ⟨rfl, hf⟩
    have HF := hid hf
    clear hf
    go_wp2
    go_end0
    exact hR.out _ _ ⟨rfl, by simp only [newErr, HR.out]; exact HF.out⟩
end Go.Proofs.Qxb6600663a
