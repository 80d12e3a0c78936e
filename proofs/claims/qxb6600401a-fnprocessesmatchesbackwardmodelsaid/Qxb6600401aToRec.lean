/-
  THE WALK OF zzToRecord (11): the events become record events.
-/
import Derived.Test.Qxb6600401aCopy
import Derived.StillTailTactics
namespace Go.Proofs.Qxb6600401a
open Go.RowKit

/-- The thirteen cells of a record event whose Trusted is the value v. -/
abbrev rcc (e : Ev) (v : Value) : List Value := [.int .i64 e.t, .int .i64 e.proc, .string e.name, .string e.kind, .int .i64 0, .int .i64 0, .string ⟨#[]⟩, .int .i64 0, v, .pointer none, .bool e.unst, .int .i64 0, .string ⟨#[]⟩]

def RcAt (w : World) (P : Nat → Prop) (b o : Nat) (e : Ev) : Prop := ∃ v, w.rangeAt b o (rcc e v) ∧ StrsAt w P v e.nl e.tr

theorem RcAt.below {w w' : World} {P : Nat → Prop} {b o : Nat} {e : Ev} (h : RcAt w P b o e) (hB : Below w.heap.size w w') : RcAt w' P b o e := by
  obtain ⟨v, hr, hs⟩ := h
  exact ⟨v, rangeAt_below hr hB, hs.below hB⟩

theorem RcAt.imp {w : World} {P Q : Nat → Prop} {b o : Nat} {e : Ev} (h : RcAt w P b o e) (hPQ : ∀ b, P b → Q b) : RcAt w Q b o e := by
  obtain ⟨v, hr, hs⟩ := h
  exact ⟨v, hr, hs.imp hPQ⟩

theorem rcc_one (x : Ev) (ao : Option Addr) (l c : Nat) : (rcc x (.slice ao l c)).toArray.all (·.oneCell') = true := by simp [rcc, Value.oneCell']

theorem Try.size54 : (Try.prog.info? 54).map (·.size) = some 13 := by kernel_rfl
theorem Try.mixed : Try.prog.follows .mixedOrders = true := by kernel_rfl

/-- The store of a whole record event, met by its text. -/
theorem store_rc (x y : Operand) {ops : Array Oper} {rest : List Oper} {dst : Option Tmp} {ty : TypeId} {pos : String} {after : Array Edge} {a : Act} {w : World} {Q : Exit → Act → World → Prop}
    (H : ∃ b o : Nat, ∃ e : Ev, ∃ ao : Option Addr, ∃ l c : Nat, a.eval x = .pointer (some ⟨b, o, none⟩) ∧ a.eval y = .agg (rcc e (.slice ao l c)).toArray ∧ w.there b o 13 ∧
      wpList Try.prog ops Q rest (a.put dst undef) (w.setCells b o (rcc e (.slice ao l c)))) :
    wpList Try.prog ops Q ({ dst := dst, op := .store 54 x y, type := ty, pos := pos, after := after, guard := none } :: rest) a w := by
  obtain ⟨b, o, e, ao, l, c, hx, hy, ht, h⟩ := H
  exact wpList_store_mid rfl 54 x y rfl b o _ hx hy ht Try.size54 (rcc_one _ _ _ _) h

theorem there_below {w w' : World} {b o n : Nat} (h : w.there b o n) (hB : Below w.heap.size w w') : w'.there b o n := fun j hj => by
  obtain ⟨h1, h2⟩ := h j hj
  obtain ⟨u, hu⟩ := Option.isSome_iff_exists.1 h1
  have hb := World.block_lt_of_cell? w _ hu
  exact ⟨by rw [hB.cell hb]; exact h1, by rw [hB.frozen hb]; exact h2⟩

theorem strs_nil {w : World} {P Q : Nat → Prop} {nl : Bool} {ss : List ByteArray} {w' : World} (hn : (none : Option Addr).isNone = nl)
    (h : ∀ j (h : j < ss.length), ∃ b o, (none : Option Addr) = some ⟨b, o, none⟩ ∧ P b ∧ w.cell? ⟨b, o + j, none⟩ = some (.string ss[j])) : StrsAt w' Q (.slice none 0 0) nl ss := by
  have e : ss = [] := by
    cases ss with
    | nil => rfl
    | cons a l => obtain ⟨_, _, h, _⟩ := h 0 (by simp); cases h
  subst e
  exact ⟨none, 0, rfl, hn, fun j hj => absurd hj (Nat.not_lt_zero j)⟩

structure RecInv (w : World) (es : List Ev) (k : Nat) (wr : World) : Prop where
  below : Below w.heap.size w wr
  own : Own wr w.heap.size 54 (es.length * 13)
  evs : ∀ i (_ : i < k) (h : i < es.length), RcAt wr (fun b => b ≠ w.heap.size) w.heap.size (i * 13) es[i]

theorem rec_start (w : World) (es : List Ev) (c : Array Value) (hc : c.size = es.length * 13) : RecInv w es 0 (w.alloc (.cells c 54)) :=
  ⟨(Below.refl _ _).alloc (Nat.le_refl _) _, by rw [← hc]; exact own_alloc _ _ _, fun i h => absurd h (Nat.not_lt_zero i)⟩

theorem rec_step {w wr W2 : World} {es : List Ev} {k : Nat} (hk : k < es.length) (h : RecInv w es k wr) (hB : Below wr.heap.size wr W2) {v : Value} (hv : StrsAt W2 (fun b => b ≠ w.heap.size) v (es[k]).nl (es[k]).tr) :
    RecInv w es (k + 1) (W2.setCells w.heap.size (k * 13) (rcc es[k] v)) := by
  have hlt := h.own.lt
  refine ⟨below_setCells _ (Nat.le_refl _) _ _ _ (h.below.trans (hB.mono (by omega))), Own.setCells _ _ _ _ (h.own.below hB), fun i hi hil => ?_⟩
  by_cases e : i = k
  · subst e
    exact ⟨v, World.rangeAt_setCells_same _ _ _ _ ((h.own.below hB).there (by simp; omega)), hv.setCells _ (fun _ q => q) _ _⟩
  · obtain ⟨u, hr, hs⟩ := (h.evs i (by omega) hil).below hB
    exact ⟨u, World.rangeAt_setCells_apart hr _ _ _ (by simp; omega), hs.setCells _ (fun _ q => q) _ _⟩

set_option maxRecDepth 100000 in
set_option maxHeartbeats 1000000 in
theorem toRec_any (ao : Option Addr) (P : Nat → Prop) (es : List Ev) (cap : Nat) (w : World) (hl : es.length ≤ 20000) (hm : ∀ i (h : i < es.length), Modest es[i])
    (hev : EvsAt w P ao es) :
    Calls Try.prog 11 #[.slice ao es.length cap] w fun e w' => e = .returned (.slice (some ⟨w.heap.size, 0, none⟩) es.length es.length) ∧ Below w.heap.size w w' ∧
      ∀ i (h : i < es.length), RcAt w' (fun _ => True) w.heap.size (i * 13) es[i] := by
  refine hideR fun R' hR => ?_
  have q37 : ∀ (w : World) (a : Option Addr) (n c : Nat), (binOp .neq 37 (.slice a n c) (.slice none 0 0)).run Try.prog w = .ok (.bool (!a.isNone)) w := fun w a n c => run_neq_slice_nil_any w _ _ _ _ _ _ _ Try.underlying37
  have mk28 := make28 es.length (by omega)
  have HC : Hid ((ZRow #[.int .i64 0, .int .i64 0, .string ⟨#[]⟩, .string ⟨#[]⟩, .int .i64 0, .int .i64 0, .string ⟨#[]⟩, .int .i64 0, .slice none 0 0, .pointer none, .bool false, .int .i64 0, .string ⟨#[]⟩] (es.length * 13)).size = es.length * 13) := size_ZRow _ _
  generalize ZRow #[.int .i64 0, .int .i64 0, .string ⟨#[]⟩, .string ⟨#[]⟩, .int .i64 0, .int .i64 0, .string ⟨#[]⟩, .int .i64 0, .slice none 0 0, .pointer none, .bool false, .int .i64 0, .string ⟨#[]⟩] (es.length * 13) = c0 at mk28 HC
  go_enter Try.func11, Try.ntmps11
  go_wp2
  have hI := rec_start w es c0 HC.out
  clear mk28
  go_loopg [4] es.length (fun g i wr => ∃ k : Nat, k ≤ es.length ∧ i = .int .i64 k ∧ g = es.length - k ∧ RecInv w es k wr)
  case atStart => exact ⟨0, Nat.zero_le _, rfl, rfl, hI⟩
  case round =>
    clear hI
    obtain ⟨k, hk, rfl, rfl, hI⟩ := hrel
    by_cases hlt : k < es.length
    · obtain ⟨b, o, rfl, he⟩ := hev k hlt
      have HS := fun W2 hB v => rec_step (W2 := W2) (v := v) hlt hI hB
      have hthere := hI.own.there (o := k * 13) (m := 13) (by omega)
      have hbel := hI.below
      have hmk := hm k hlt
      have hsz := hI.own.lt
      clear hev hm hI
      have HS' := (show Hid _ from HS)
      clear HS
      have he' := he.below hbel
      clear he
      generalize es[k] = x at *
      obtain ⟨to, tc, hra, htn, htr, h0, h1, h2, h3, h4, h5⟩ := he'.cells
      clear he'
      have HT := (show Hid _ from htr)
      clear htr
      have HN := (show Hid _ from htn)
      clear htn
      unfold Modest at hmk
      have HTH := (show Hid _ from hthere)
      clear hthere hra hbel
      cases to with
      | none =>
        go_wp2
        go_still_tail 30, Try.mixed
        refine store_rc (.tmp 79) (.tmp 78) ?_
        refine ⟨w.heap.size, k * 13, x, none, 0, 0, rfl, rfl, HTH.out, ?_⟩
        go_wp2
        go_roundg (es.length - (k + 1))
        case measure => omega
        case rel => exact ⟨k + 1, by omega, by go_num, rfl, HS'.out _ (Below.refl _ _).drew _ (strs_nil HN.out HT.out)⟩
      | some ta =>
        have hbb := World.block_lt_of_cell? _ _ h5
        have mk34 := make34 x.tr.length (by omega)
        have HM : Hid ((ZRow #[.string ⟨#[]⟩] (x.tr.length * 1)).size = x.tr.length) := (size_ZRow _ _).trans (Nat.mul_one _)
        generalize ZRow #[.string ⟨#[]⟩] (x.tr.length * 1) = c1 at mk34 HM
        go_wp2
        have hF : Filled c1 x.tr 0 := ⟨HM.out, fun i h => absurd h (Nat.not_lt_zero i)⟩
        clear mk34 HM
        go_loopg [6] x.tr.length (fun g i wi => ∃ j : Nat, ∃ c : Array Value, j ≤ x.tr.length ∧ i = .int .i64 j ∧ g = x.tr.length - j ∧ Filled c x.tr j ∧ wi = wr.alloc (.cells c 33))
        case atStart => exact ⟨0, c1, Nat.zero_le _, rfl, rfl, hF, rfl⟩
        case round =>
          clear hF
          obtain ⟨j, c, hj, rfl, rfl, hF, rfl⟩ := hrel
          by_cases hjl : j < x.tr.length
          · obtain ⟨b', o', hta, _, hs⟩ := HT.out j hjl
            obtain rfl := Option.some.inj hta
            obtain ⟨old, hold⟩ := filled_get hjl hF
            have HF := (show Hid _ from filled_step hjl hF)
            have hbb' := World.block_lt_of_cell? _ _ hs
            clear hF HT
            generalize x.tr[j] = s at *
            go_wp2
            go_roundg (x.tr.length - (j + 1))
            case measure => omega
            case rel => exact ⟨j + 1, _, by omega, by go_num, rfl, HF.out, rfl⟩
          · obtain rfl : j = x.tr.length := by omega
            have HF := (show Hid _ from hF)
            clear hF
            go_wp2
            have HW : Hid (Below wr.heap.size wr (wr.alloc (.cells c 33)) ∧ StrsAt (wr.alloc (.cells c 33)) (fun b => b ≠ w.heap.size) (.slice (some ⟨wr.heap.size, 0, none⟩) x.tr.length x.tr.length) x.nl x.tr) :=
              ⟨(Below.refl _ _).alloc (Nat.le_refl _) _, by rw [← HN.out]; exact strs_filled (W := wr) (Nat.ne_of_gt (by omega)) HF.out⟩
            generalize wr.alloc (.cells c 33) = W2 at *
            replace h0 := cell_later HW.out.1 h0
            replace h1 := cell_later HW.out.1 h1
            replace h2 := cell_later HW.out.1 h2
            replace h3 := cell_later HW.out.1 h3
            replace h4 := cell_later HW.out.1 h4
            replace h5 := cell_later HW.out.1 h5
            have HTH2 : Hid (W2.there w.heap.size (k * 13) 13) := there_below HTH.out HW.out.1
            go_still_tail 30, Try.mixed
            refine store_rc (.tmp 79) (.tmp 78) ?_
            refine ⟨w.heap.size, k * 13, x, some ⟨wr.heap.size, 0, none⟩, x.tr.length, x.tr.length, rfl, rfl, HTH2.out, ?_⟩
            go_wp2
            go_roundg (es.length - (k + 1))
            case measure => omega
            case rel => exact ⟨k + 1, by omega, by go_num, rfl, HS'.out _ HW.out.1.drew _ HW.out.2⟩
    · clear hev hm
      obtain rfl : k = es.length := by omega
      have HI := (show Hid _ from hI)
      clear hI
      go_wp2
      exact hR.out _ _ ⟨rfl, HI.out.below, fun i hi => (HI.out.evs i hi hi).imp (fun _ _ => trivial)⟩
end Go.Proofs.Qxb6600401a
