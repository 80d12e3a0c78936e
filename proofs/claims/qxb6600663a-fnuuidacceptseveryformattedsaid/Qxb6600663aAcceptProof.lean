/-
  THE ROW OF FnUUIDAcceptsEveryFormatted, PROVED: the guide's frame at this function; the walk is 'accept_walk'.
-/
import Derived.Test.Qxb6600663aAccept
import Derived.ProofKit
import Derived.OpenShut
import Derived.ChangeOld
import Derived.Below
import Derived.Deep.Slices
namespace Go.Proofs.Qxb6600663a.accept
open Go.ChangeShapes Go.WideShapes Go.ChangeAt Go.RowKit Go.Deep

theorem own : ownKnob Try.prog.godebug = none := by kernel_rfl
theorem laidOut : laidOutB Try.prog = true := by kernel_rfl
theorem cells23 : Try.prog.cellsOf 23 = 16 := by kernel_rfl
theorem cells5 : Try.prog.cellsOf 5 = 1 := by kernel_rfl

theorem bounds8 {x : Int} (h : (Lit.int .u8 x).wf = true) : 0 ≤ x ∧ x ≤ 255 := by
  have h1 : IntKind.u8.min = 0 := rfl
  have h2 : IntKind.u8.max = 255 := rfl
  simp only [Lit.wf, Bool.and_eq_true, decide_eq_true_eq] at h
  omega
theorem bounds32 {x : Int} (h : (Lit.int .u32 x).wf = true) : 0 ≤ x ∧ x ≤ 4294967295 := by
  have h1 : IntKind.u32.min = 0 := rfl
  have h2 : IntKind.u32.max = 4294967295 := rfl
  simp only [Lit.wf, Bool.and_eq_true, decide_eq_true_eq] at h
  omega

/-- Sixteen bytes that came in by value. -/
theorem open_b16 {H : Type} {enc : TypeId × Value → H} {W : World} {r : Reach} {b0 base : Nat} {sp : Nat → Bool} {held : Bool} {v : Value} {d : DataW H} {p : List MemPlace} (hv : Value.okWide Try.prog W r b0 23 v) (h : DataW.Trod enc Try.prog W base sp held 23 v d p) :
    ∃ x : Nat → Int, v = .agg #[.int .u8 (x 0), .int .u8 (x 1), .int .u8 (x 2), .int .u8 (x 3), .int .u8 (x 4), .int .u8 (x 5), .int .u8 (x 6), .int .u8 (x 7), .int .u8 (x 8), .int .u8 (x 9), .int .u8 (x 10), .int .u8 (x 11), .int .u8 (x 12), .int .u8 (x 13), .int .u8 (x 14), .int .u8 (x 15)] ∧ ∀ i, 0 ≤ x i ∧ x i ≤ 255 := by
  simp only [Value.okWide, Try.underlying23] at hv
  obtain ⟨cs, rfl, hsz, _⟩ := hv
  rw [cells23] at hsz
  obtain ⟨fuel, hf⟩ := h
  obtain ⟨xs, m, _, _, _, _, hx⟩ := DataW.trod_array Try.underlying23 hf
  rw [cells5] at hx
  obtain ⟨X, hX⟩ := choose_lt (α := Int) (n := 16) (p := fun i z => cs.toList[i]? = some (.int .u8 z) ∧ 0 ≤ z ∧ z ≤ 255) (fun i hi => by
    have h1 := hx i hi
    cases hq : xs[i]? with
    | none =>
      have : i < xs.length := by omega
      simp [List.getElem?_eq_getElem this] at hq
    | some y =>
      rw [hq] at h1
      obtain ⟨z, e, _, wz⟩ := DataW.trod_int Try.underlying5 h1
      refine ⟨z, ?_, bounds8 wz⟩
      have e' : (cs.toList.drop i)[0]? = some (.int .u8 z) := by
        have := congrArg (fun l : List Value => l[0]?) e
        simpa [Value.cells] using this
      simpa using e')
  have hl : cs.toList.length = 16 := by simpa using hsz
  refine ⟨fun i => if i < 16 then X i else 0, ?_, fun i => ?_⟩
  · obtain ⟨l⟩ := cs
    match l, hl with
    | [c0, c1, c2, c3, c4, c5, c6, c7, c8, c9, c10, c11, c12, c13, c14, c15], _ =>
      have h0 := (hX 0 (by omega)).1
      have h1 := (hX 1 (by omega)).1
      have h2 := (hX 2 (by omega)).1
      have h3 := (hX 3 (by omega)).1
      have h4 := (hX 4 (by omega)).1
      have h5 := (hX 5 (by omega)).1
      have h6 := (hX 6 (by omega)).1
      have h7 := (hX 7 (by omega)).1
      have h8 := (hX 8 (by omega)).1
      have h9 := (hX 9 (by omega)).1
      have h10 := (hX 10 (by omega)).1
      have h11 := (hX 11 (by omega)).1
      have h12 := (hX 12 (by omega)).1
      have h13 := (hX 13 (by omega)).1
      have h14 := (hX 14 (by omega)).1
      have h15 := (hX 15 (by omega)).1
      simp at h0 h1 h2 h3 h4 h5 h6 h7 h8 h9 h10 h11 h12 h13 h14 h15
      subst h0 h1 h2 h3 h4 h5 h6 h7 h8 h9 h10 h11 h12 h13 h14 h15
      simp
  · show 0 ≤ (if i < 16 then X i else 0) ∧ (if i < 16 then X i else 0) ≤ 255
    split
    · rename_i hi; exact (hX i hi).2
    · omega

set_option maxRecDepth 100000 in
theorem lifted (os : Os) (started : os.Started) (H : Type) (enc : TypeId × Value → H) :
    ReturnsInHanded {} Try.checked os 4 .any (Rows.fnUUIDAcceptsEveryFormattedSpec.pre6 enc Try.prog Try.f4 Rows.fnUUIDAcceptsEveryFormattedRow.domain false) (Rows.fnUUIDAcceptsEveryFormattedSpec.post enc Try.prog Try.f4 false true false false) := by
  refine returnsInHanded_of_change (C := Try.checked) own started (by kernel_rfl) Try.func4
    (ChangeSpec.witness6 (enc := enc) (C := Try.checked) false ⟨#[], #[.agg #[.int .u8 0, .int .u8 0, .int .u8 0, .int .u8 0, .int .u8 0, .int .u8 0, .int .u8 0, .int .u8 0, .int .u8 0, .int .u8 0, .int .u8 0, .int .u8 0, .int .u8 0, .int .u8 0, .int .u8 0, .int .u8 0], .int .u32 0], []⟩ 8 (by kernel_rfl) (by kernel_rfl) (by kernel_rfl) (by kernel_rfl)) ?_
  intro W base args ds gs before hval0 hW hcnd _
  have hval : ∀ (j : Nat) t v, Try.f4.params[j]? = some t → args[j]? = some v → Value.okWide Try.prog W .any base t v := hval0
  have hW' := hW
  obtain ⟨p, q, hA0, hV, rfl, hfz, hnd⟩ := hW
  have hA : DataW.TrodAll enc Try.prog W 0 (fun _ => true) true Try.f4.params.toList args.toList ds p := hA0
  rw [Try.params4] at hA hval
  obtain ⟨v0, vs0, d0, ds0, p0, q0, hargs, rfl, rfl, h0, r0⟩ := trodAll_cons hA
  obtain ⟨v1, vs1, d1, ds1, p1, q1, rfl, rfl, rfl, h1, r1⟩ := trodAll_cons r0
  obtain ⟨rfl, rfl, rfl⟩ := trodAll_nil r1
  obtain rfl : args = #[v0, v1] := by cases args; simp_all
  obtain ⟨rfl, rfl⟩ := trodVars_none hV
  have k0 := h0
  have lt0 : ∀ x ∈ p0, x.block < W.heap.size := by obtain ⟨m, hm⟩ := k0; exact DataW.trod_lt m _ _ _ hm
  obtain ⟨x, rfl, hx⟩ := open_b16 (hval 0 23 v0 rfl rfl) h0
  obtain ⟨a1, rfl, rfl, rfl, w1⟩ := open_int Try.underlying24 (hval 1 24 v1 rfl rfl) h1
  clear hA0 hval0
  refine (accept_walk x a1 hx (bounds32 w1) W).mono fun e W' ⟨he, bel⟩ => ?_
  subst he
  exact ⟨_, rfl, _, _, _, [], _, [], hW', trodAll_mk1 (shut_bool Try.underlying4 _), (trodAll_cons_mk (Below.trod laidOut (by kernel_rfl) (of_decide_eq_true (by kernel_rfl)) k0 bel lt0) (trodAll_cons_mk (shut_int Try.underlying24 w1) trodAll_mk0)), rfl, bel.frame _, fun h => by cases h⟩

theorem over : Rows.fnUUIDAcceptsEveryFormattedRow.holds Try.pinned (OpenSpec.ofChange Rows.fnUUIDAcceptsEveryFormattedSpec) :=
  OpenClaim.holds_of_wide 4 Try.f4 rfl rfl rfl rfl rfl rfl rfl ⟨rfl, rfl, rfl, rfl, rfl⟩ rfl rfl rfl rfl rfl (by kernel_rfl) Try.func4 (by kernel_rfl)
    (of_decide_eq_true (by kernel_rfl)) (by unfold Func.isWrapper; first | (rw [if_pos (by decide +kernel)]; kernel_rfl) | (rw [if_neg (by decide +kernel)]; exact ⟨rfl, rfl⟩))
    (fun os started H enc _ => lifted os started H enc)
end Go.Proofs.Qxb6600663a.accept
namespace Go.Proofs.Qxb6600663a

/-- THE STATEMENT. -/
theorem accept_holds : Rows.FnUUIDAcceptsEveryFormattedSaid := accept.over

end Go.Proofs.Qxb6600663a
