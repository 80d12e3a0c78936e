import Derived.Test.Qxb6600401aReads
import Derived.Test.Qxb6600401aMem
namespace Go.Proofs.Qxb6600401a
open Go.RowKit

theorem evc_one (x : Ev) (ao : Option Addr) (l c : Nat) : (evc x (.slice ao l c)).toArray.all (·.oneCell') = true := by simp [evc, Value.oneCell']

theorem Try.size42 : (Try.prog.info? 42).map (·.size) = some 6 := by kernel_rfl

/-- The store of a whole event, met by its text. -/
theorem store_ev (x y : Operand) {ops : Array Oper} {rest : List Oper} {dst : Option Tmp} {ty : TypeId} {pos : String} {after : Array Edge} {a : Act} {w : World} {Q : Exit → Act → World → Prop}
    (H : ∃ b o : Nat, ∃ e : Ev, ∃ ao : Option Addr, ∃ l c : Nat, a.eval x = .pointer (some ⟨b, o, none⟩) ∧ a.eval y = .agg (evc e (.slice ao l c)).toArray ∧ w.there b o 6 ∧
      wpList Try.prog ops Q rest (a.put dst undef) (w.setCells b o (evc e (.slice ao l c)))) :
    wpList Try.prog ops Q ({ dst := dst, op := .store 42 x y, type := ty, pos := pos, after := after, guard := none } :: rest) a w := by
  obtain ⟨b, o, e, ao, l, c, hx, hy, ht, h⟩ := H
  exact wpList_store_mid rfl 42 x y rfl b o _ hx hy ht Try.size42 (evc_one _ _ _ _) h

structure CopyInv (w : World) (es : List Ev) (k : Nat) (wr : World) : Prop where
  below : Below w.heap.size w wr
  own : Own wr w.heap.size 42 (es.length * 6)
  evs : ∀ i (_ : i < k) (h : i < es.length), EvAt wr (fun b => b ≠ w.heap.size) w.heap.size (i * 6) es[i]

theorem copy_start (w : World) (es : List Ev) (c : Array Value) (hc : c.size = es.length * 6) : CopyInv w es 0 (w.alloc (.cells c 42)) :=
  ⟨(Below.refl _ _).alloc (Nat.le_refl _) _, by rw [← hc]; exact own_alloc _ _ _, fun i h => absurd h (Nat.not_lt_zero i)⟩

theorem copy_step {w wr W2 : World} {es : List Ev} {k : Nat} (hk : k < es.length) (h : CopyInv w es k wr) (hB : Below wr.heap.size wr W2) {v : Value} (hv : StrsAt W2 (fun b => b ≠ w.heap.size) v (es[k]).nl (es[k]).tr) :
    CopyInv w es (k + 1) (W2.setCells w.heap.size (k * 6) (evc es[k] v)) := by
  have hlt := h.own.lt
  refine ⟨below_setCells _ (Nat.le_refl _) _ _ _ (h.below.trans (hB.mono (by omega))), Own.setCells _ _ _ _ (h.own.below hB), fun i hi hil => ?_⟩
  by_cases e : i = k
  · subst e
    exact ⟨v, World.rangeAt_setCells_same _ _ _ _ ((h.own.below hB).there (by simp; omega)), hv.setCells _ (fun _ q => q) _ _⟩
  · obtain ⟨u, hr, hs⟩ := (h.evs i (by omega) hil).below hB
    exact ⟨u, World.rangeAt_setCells_apart hr _ _ _ (by simp; omega), hs.setCells _ (fun _ q => q) _ _⟩

/-- The strings copied so far. -/
def Filled (c : Array Value) (ss : List ByteArray) (j : Nat) : Prop := c.size = ss.length ∧ ∀ i (_ : i < j) (h : i < ss.length), c[i]? = some (.string ss[i])

theorem filled_step {c : Array Value} {ss : List ByteArray} {j : Nat} (hj : j < ss.length) (h : Filled c ss j) : Filled (c.setIfInBounds j (.string ss[j])) ss (j + 1) := by
  refine ⟨by simpa using h.1, fun i hi hl => ?_⟩
  rw [Array.getElem?_setIfInBounds]
  by_cases e : i = j
  · subst e; simp [h.1, hj]
  · rw [if_neg (fun q => e q.symm)]; exact h.2 i (by omega) hl

theorem filled_get {c : Array Value} {ss : List ByteArray} {j : Nat} (hj : j < ss.length) (h : Filled c ss j) : ∃ u, c[j]? = some u := ⟨c[j]'(by rw [h.1]; exact hj), by simp [h.1, hj]⟩

theorem strs_filled {W : World} {c : Array Value} {ss : List ByteArray} {t : TypeId} {P : Nat → Prop} (hP : P W.heap.size) (h : Filled c ss ss.length) :
    StrsAt (W.alloc (.cells c t)) P (.slice (some ⟨W.heap.size, 0, none⟩) ss.length ss.length) false ss :=
  ⟨_, _, rfl, rfl, fun j hj => ⟨_, _, rfl, hP, by rw [World.cell?_alloc_at _ _ _ _ rfl]; simpa using h.2 j hj hj⟩⟩

theorem strs_filled2 {wr : World} {o : Obj} {c : Array Value} {ss : List ByteArray} {t : TypeId} {P : Nat → Prop} (hP : P (wr.heap.size + 1)) (h : Filled c ss ss.length) :
    StrsAt ((wr.alloc o).alloc (.cells c t)) P (.slice (some ⟨wr.heap.size + 1, 0, none⟩) ss.length ss.length) false ss := by
  have e : (wr.alloc o).heap.size = wr.heap.size + 1 := by simp
  have := strs_filled (W := wr.alloc o) (c := c) (t := t) (P := P) (by rw [e]; exact hP) h
  rwa [e] at this

set_option maxRecDepth 100000 in
set_option maxHeartbeats 1000000 in
theorem copy_any (ao : Option Addr) (P : Nat → Prop) (es : List Ev) (cap : Nat) (w : World) (hn : ao = none → es = []) (hl : es.length ≤ 13107) (hm : ∀ i (h : i < es.length), Modest es[i])
    (hev : EvsAt w P ao es) :
    Calls Try.prog 9 #[.slice ao es.length cap] w fun e w' => ∃ ao' , e = .returned (.slice ao' es.length es.length) ∧ (ao' = none → es = []) ∧ EvsAt w' (fun _ => True) ao' es ∧ Below w.heap.size w w' := by
  refine hideR fun R' hR => ?_
  have q22 : ∀ (w : World) (a : Option Addr) (n c : Nat), (binOp .eql 22 (.slice a n c) (.slice none 0 0)).run Try.prog w = .ok (.bool a.isNone) w := fun w a n c => Lib.run_eql_slice_nil w _ _ _ _ _ _ _ Try.underlying22
  have q37 : ∀ (w : World) (a : Option Addr) (n c : Nat), (binOp .neq 37 (.slice a n c) (.slice none 0 0)).run Try.prog w = .ok (.bool (!a.isNone)) w := fun w a n c => run_neq_slice_nil_any w _ _ _ _ _ _ _ Try.underlying37
  cases ao with
  | none =>
    obtain rfl := hn rfl
    go_enter Try.func9, Try.ntmps9
    go_wp2
    exact hR.out _ _ ⟨none, rfl, by simp, fun i h => absurd h (Nat.not_lt_zero i), Below.refl _ _⟩
  | some a =>
    have mk22 := make22 es.length (by omega)
    have HC : Hid ((ZRow #[.int .i64 0, .int .i64 0, .string ⟨#[]⟩, .string ⟨#[]⟩, .bool false, .slice none 0 0] (es.length * 6)).size = es.length * 6) := size_ZRow _ _
    generalize ZRow #[.int .i64 0, .int .i64 0, .string ⟨#[]⟩, .string ⟨#[]⟩, .bool false, .slice none 0 0] (es.length * 6) = c0 at mk22 HC
    go_enter Try.func9, Try.ntmps9
    go_wp2
    have hI := copy_start w es c0 HC.out
    clear mk22
    go_loopg [4] es.length (fun g i wr => ∃ k : Nat, k ≤ es.length ∧ i = .int .i64 k ∧ g = es.length - k ∧ CopyInv w es k wr)
    case atStart => exact ⟨0, Nat.zero_le _, rfl, rfl, hI⟩
    case round =>
      clear hI
      obtain ⟨k, hk, rfl, rfl, hI⟩ := hrel
      by_cases hlt : k < es.length
      · obtain ⟨b, o, hao, he⟩ := hev k hlt
        obtain rfl := Option.some.inj hao
        have HS := fun W2 hB v => copy_step (W2 := W2) (v := v) hlt hI hB
        have hthere := hI.own.there (o := k * 6) (m := 6) (by omega)
        have hbel := hI.below
        have hmk := hm k hlt
        have hsz := hI.own.lt
        clear hev hm hI
        have HS' := (show Hid _ from HS)
        clear HS
        have he' := he.below hbel
        clear he hn
        generalize es[k] = x at *
        obtain ⟨to, tc, hra, htn, htr, h0, h1, h2, h3, h4, h5⟩ := he'.cells
        clear he'
        have HT := (show Hid _ from htr)
        clear htr
        have HN := (show Hid _ from htn)
        clear htn
        unfold Modest at hmk
        cases to with
        | none =>
          go_wp2_with (refine store_ev (.tmp 50) (.tmp 49) ?_; refine ⟨w.heap.size, k * 6, x, none, x.tr.length, tc, rfl, rfl, World.there_alloc hthere _, ?_⟩)
          go_roundg (es.length - (k + 1))
          case measure => omega
          case rel => exact ⟨k + 1, by omega, by go_num, rfl, HS'.out _ ((Below.refl _ _).alloc (Nat.le_refl _) _) _ ⟨none, tc, rfl, HN.out, fun j hj => by obtain ⟨_, _, h, _⟩ := HT.out j hj; cases h⟩⟩
        | some ta =>
          have mk37 := make37 x.tr.length (by omega)
          have HM : Hid ((ZRow #[.string ⟨#[]⟩] (x.tr.length * 1)).size = x.tr.length) := (size_ZRow _ _).trans (Nat.mul_one _)
          generalize ZRow #[.string ⟨#[]⟩] (x.tr.length * 1) = c1 at mk37 HM
          go_wp2
          have hF : Filled c1 x.tr 0 := ⟨HM.out, fun i h => absurd h (Nat.not_lt_zero i)⟩
          clear mk37 HM
          go_loopg [7] x.tr.length (fun g i wi => ∃ j : Nat, ∃ c : Array Value, j ≤ x.tr.length ∧ i = .int .i64 j ∧ g = x.tr.length - j ∧ Filled c x.tr j ∧
            wi = (wr.alloc (.cells #[.int .i64 x.t, .int .i64 x.proc, .string x.name, .string x.kind, .bool x.unst, .slice (some ta) x.tr.length tc] 42)).alloc (.cells c 9))
          case atStart => exact ⟨0, c1, Nat.zero_le _, rfl, rfl, hF, rfl⟩
          case round =>
            clear hF
            obtain ⟨j, c, hj, rfl, rfl, hF, rfl⟩ := hrel
            by_cases hjl : j < x.tr.length
            · obtain ⟨b', o', hta, _, hs⟩ := HT.out j hjl
              obtain rfl := Option.some.inj hta
              obtain ⟨old, hold⟩ := filled_get hjl hF
              have HF := (show Hid _ from filled_step hjl hF)
              have hbb := World.block_lt_of_cell? _ _ hs
              clear hF HT
              generalize x.tr[j] = s at *
              go_wp2
              go_roundg (x.tr.length - (j + 1))
              case measure => omega
              case rel => exact ⟨j + 1, _, by omega, by go_num, rfl, HF.out, rfl⟩
            · obtain rfl : j = x.tr.length := by omega
              have HF := (show Hid _ from hF)
              clear hF
              go_wp2_with (refine store_ev (.tmp 50) (.tmp 49) ?_; refine ⟨w.heap.size, k * 6, x, some ⟨wr.heap.size + 1, 0, none⟩, x.tr.length, x.tr.length, rfl, rfl, World.there_alloc (World.there_alloc hthere _) _, ?_⟩)
              go_roundg (es.length - (k + 1))
              case measure => omega
              case rel => exact ⟨k + 1, by omega, by go_num, rfl, HS'.out _ (((Below.refl _ _).alloc (Nat.le_refl _) _).alloc (by simp) _) _ (by rw [← HN.out]; exact strs_filled2 (Nat.ne_of_gt (by omega)) HF.out)⟩
      · clear hev hm
        obtain rfl : k = es.length := by omega
        have HI := (show Hid _ from hI)
        clear hI hn
        go_wp2
        exact hR.out _ _ ⟨_, rfl, by simp, fun i hi => ⟨w.heap.size, 0, rfl, by rw [Nat.zero_add]; exact (HI.out.evs i hi hi).imp (fun _ _ => trivial)⟩, HI.out.below⟩
end Go.Proofs.Qxb6600401a
