/-
  THE WALKS OF THE FUNCTIONS THAT ONLY READ THE EVENTS: zzProcsInRange (8), zzBytes (6, 14, 16), zzTooBig (7).
-/
import Derived.Test.Qxb6600401aBase
namespace Go.Proofs.Qxb6600401a
open Go.RowKit

/-- What zzProcsInRange asks of one event. -/
def InRange (n : Int) (e : Ev) : Prop := e.kind.toList ≠ endK → 1 ≤ e.proc ∧ e.proc ≤ n

theorem inRange_step {n : Int} {es : List Ev} {k : Nat} (hlt : k < es.length) (hold : ∀ i (_ : i < k) (h' : i < es.length), InRange n es[i]) :
    Hid (InRange n es[k] → ∀ i (_ : i < k + 1) (h' : i < es.length), InRange n es[i]) := by
  intro r i hi h'
  by_cases e : i = k
  · subst e; exact r
  · exact hold i (by omega) h'

theorem inRange_end {n : Int} {x : Ev} (h : (x.kind.toList == [101, 110, 100]) = true) : InRange n x := fun hne => absurd (by simpa using h) hne

set_option maxHeartbeats 400000 in
theorem procs_any (n : Int) (ao : Option Addr) (P : Nat → Prop) (es : List Ev) (cap : Nat) (w : World) (hl : es.length ≤ maxLen)
    (hev : EvsAt w P ao es) :
    Calls Try.prog 8 #[.int .i64 n, .slice ao es.length cap] w fun e w' => ∃ r, e = .returned (.bool r) ∧ w' = w ∧ (r = true → ∀ i (h : i < es.length), InRange n es[i]) := by
  unfold maxLen at hl
  refine hideR fun R' hR => ?_
  go_enter Try.func8, Try.ntmps8
  go_wp2
  go_loopg [5] es.length (fun g i wr => ∃ k : Nat, k ≤ es.length ∧ i = .int .i64 k ∧ g = es.length - k ∧ w = wr ∧ ∀ i (_ : i < k) (h' : i < es.length), InRange n es[i])
  case atStart => exact ⟨0, Nat.zero_le _, rfl, rfl, rfl, by intro i h; omega⟩
  case round =>
    obtain ⟨k, hk, rfl, rfl, rfl, hold⟩ := hrel
    by_cases hlt : k < es.length
    · obtain ⟨b, o, rfl, he⟩ := hev k hlt
      have HX := inRange_step hlt hold
      clear hold hev
      generalize es[k] = x at *
      obtain ⟨to, tc, _, _, _, h0, h1, h2, h3, h4, h5⟩ := he.cells
      clear he
      go_wp2
      · go_roundg (es.length - (k + 1))
        case measure => omega
        case rel => exact ⟨k + 1, by omega, by go_num, rfl, rfl, HX.out (inRange_end ‹_›)⟩
      · exact hR.out _ _ ⟨false, rfl, rfl, by simp⟩
      · go_roundg (es.length - (k + 1))
        case measure => omega
        case rel => exact ⟨k + 1, by omega, by go_num, rfl, rfl, HX.out (fun _ => ‹_›)⟩
      · exact hR.out _ _ ⟨false, rfl, rfl, by simp⟩
    · have HX : Hid (∀ i (h : i < es.length), InRange n es[i]) := fun i h => hold i (by omega) h
      clear hold hev
      go_wp2
      exact hR.out _ _ ⟨true, rfl, rfl, fun _ => HX.out⟩


set_option maxRecDepth 100000 in
set_option maxHeartbeats 1000000 in
theorem bytes14 (n : Int) (ao : Option Addr) (P : Nat → Prop) (es : List Ev) (cap : Nat) (w : World)
    (hev : EvsAt w P ao es) :
    Calls Try.prog 14 #[.int .i64 n, .slice ao es.length cap] w fun e w' => ∃ r, e = .returned (.bool r) ∧ w' = w := by
  refine hideR fun R' hR => ?_
  by_cases hbig : 1048576 < es.length
  · go_enter Try.func14, Try.ntmps14
    go_wp2
    exact hR.out _ _ ⟨false, rfl, rfl⟩
  go_enter Try.func14, Try.ntmps14
  go_wp2
  go_loopg [5, 6] es.length (fun g z i wr => ∃ k m : Nat, k ≤ es.length ∧ m ≤ 1048576 ∧ z = .int .i64 m ∧ i = .int .i64 k ∧ g = es.length - k ∧ w = wr)
  case atStart => exact ⟨0, es.length, Nat.zero_le _, by omega, rfl, rfl, rfl, rfl⟩
  case round =>
    obtain ⟨k, m, hk, hm, rfl, rfl, rfl, rfl⟩ := hrel
    by_cases hlt : k < es.length
    · obtain ⟨b, o, rfl, he⟩ := hev k hlt
      clear hev
      generalize es[k] = x at *
      obtain ⟨to, tc, _, _, htr, h0, h1, h2, h3, h4, h5⟩ := he.cells
      clear he
      have HT := (show Hid _ from htr)
      clear htr
      go_wp2
      iterate 6 (exact hR.out _ _ ⟨false, rfl, rfl⟩)
      go_loopg [5, 7] x.tr.length (fun g z i wr => ∃ j m : Nat, j ≤ x.tr.length ∧ m ≤ 1048576 ∧ z = .int .i64 m ∧ i = .int .i64 j ∧ g = x.tr.length - j ∧ w = wr)
      case atStart => exact ⟨0, m + x.name.size + x.kind.size + x.tr.length, Nat.zero_le _, by omega, by go_num, rfl, rfl, rfl⟩
      case round =>
        obtain ⟨j, m, hj, hm, rfl, rfl, rfl, rfl⟩ := hrel
        by_cases hjl : j < x.tr.length
        · obtain ⟨b', o', rfl, _, hs⟩ := HT.out j hjl
          clear HT
          generalize x.tr[j] = s at *
          go_wp2
          · exact hR.out _ _ ⟨false, rfl, rfl⟩
          · exact hR.out _ _ ⟨false, rfl, rfl⟩
          · go_roundg (x.tr.length - (j + 1))
            case measure => omega
            case rel => exact ⟨j + 1, m + s.size, by omega, by omega, by go_num, by go_num, rfl, rfl⟩
        · go_wp2
          go_roundg (es.length - (k + 1))
          case measure => omega
          case rel => exact ⟨k + 1, m, by omega, by omega, by go_num, by go_num, rfl, rfl⟩
    · clear hev
      go_wp2
      exact hR.out _ _ ⟨true, rfl, rfl⟩


set_option maxRecDepth 100000 in
set_option maxHeartbeats 1000000 in
theorem bytes6 (n : Int) (ao : Option Addr) (P : Nat → Prop) (es : List Ev) (cap : Nat) (w : World)
    (hev : EvsAt w P ao es) :
    Calls Try.prog 6 #[.int .i64 n, .slice ao es.length cap] w fun e w' => ∃ r, e = .returned (.bool r) ∧ w' = w := by
  refine hideR fun R' hR => ?_
  by_cases hbig : 1048576 < es.length
  · go_enter Try.func6, Try.ntmps6
    go_wp2
    exact hR.out _ _ ⟨false, rfl, rfl⟩
  go_enter Try.func6, Try.ntmps6
  go_wp2
  go_loopg [5, 6] es.length (fun g z i wr => ∃ k m : Nat, k ≤ es.length ∧ m ≤ 1048576 ∧ z = .int .i64 m ∧ i = .int .i64 k ∧ g = es.length - k ∧ w = wr)
  case atStart => exact ⟨0, es.length, Nat.zero_le _, by omega, rfl, rfl, rfl, rfl⟩
  case round =>
    obtain ⟨k, m, hk, hm, rfl, rfl, rfl, rfl⟩ := hrel
    by_cases hlt : k < es.length
    · obtain ⟨b, o, rfl, he⟩ := hev k hlt
      clear hev
      generalize es[k] = x at *
      obtain ⟨to, tc, _, _, htr, h0, h1, h2, h3, h4, h5⟩ := he.cells
      clear he
      have HT := (show Hid _ from htr)
      clear htr
      go_wp2
      iterate 6 (exact hR.out _ _ ⟨false, rfl, rfl⟩)
      go_loopg [5, 7] x.tr.length (fun g z i wr => ∃ j m : Nat, j ≤ x.tr.length ∧ m ≤ 1048576 ∧ z = .int .i64 m ∧ i = .int .i64 j ∧ g = x.tr.length - j ∧ w = wr)
      case atStart => exact ⟨0, m + x.name.size + x.kind.size + x.tr.length, Nat.zero_le _, by omega, by go_num, rfl, rfl, rfl⟩
      case round =>
        obtain ⟨j, m, hj, hm, rfl, rfl, rfl, rfl⟩ := hrel
        by_cases hjl : j < x.tr.length
        · obtain ⟨b', o', rfl, _, hs⟩ := HT.out j hjl
          clear HT
          generalize x.tr[j] = s at *
          go_wp2
          · exact hR.out _ _ ⟨false, rfl, rfl⟩
          · exact hR.out _ _ ⟨false, rfl, rfl⟩
          · go_roundg (x.tr.length - (j + 1))
            case measure => omega
            case rel => exact ⟨j + 1, m + s.size, by omega, by omega, by go_num, by go_num, rfl, rfl⟩
        · go_wp2
          go_roundg (es.length - (k + 1))
          case measure => omega
          case rel => exact ⟨k + 1, m, by omega, by omega, by go_num, by go_num, rfl, rfl⟩
    · clear hev
      go_wp2
      exact hR.out _ _ ⟨true, rfl, rfl⟩


set_option maxRecDepth 100000 in
set_option maxHeartbeats 1000000 in
theorem bytes16 (n kk : Int) (ao : Option Addr) (P : Nat → Prop) (es : List Ev) (cap : Nat) (w : World)
    (hev : EvsAt w P ao es) :
    Calls Try.prog 16 #[.int .i64 n, .slice ao es.length cap, .int .i64 kk] w fun e w' => ∃ r, e = .returned (.bool r) ∧ w' = w := by
  refine hideR fun R' hR => ?_
  by_cases hbig : 1048576 < es.length
  · go_enter Try.func16, Try.ntmps16
    go_wp2
    exact hR.out _ _ ⟨false, rfl, rfl⟩
  go_enter Try.func16, Try.ntmps16
  go_wp2
  go_loopg [7, 8] es.length (fun g z i wr => ∃ k m : Nat, k ≤ es.length ∧ m ≤ 1048576 ∧ z = .int .i64 m ∧ i = .int .i64 k ∧ g = es.length - k ∧ w = wr)
  case atStart => exact ⟨0, es.length, Nat.zero_le _, by omega, rfl, rfl, rfl, rfl⟩
  case round =>
    obtain ⟨k, m, hk, hm, rfl, rfl, rfl, rfl⟩ := hrel
    by_cases hlt : k < es.length
    · obtain ⟨b, o, rfl, he⟩ := hev k hlt
      clear hev
      generalize es[k] = x at *
      obtain ⟨to, tc, _, _, htr, h0, h1, h2, h3, h4, h5⟩ := he.cells
      clear he
      have HT := (show Hid _ from htr)
      clear htr
      go_wp2
      iterate 6 (exact hR.out _ _ ⟨false, rfl, rfl⟩)
      go_loopg [7, 9] x.tr.length (fun g z i wr => ∃ j m : Nat, j ≤ x.tr.length ∧ m ≤ 1048576 ∧ z = .int .i64 m ∧ i = .int .i64 j ∧ g = x.tr.length - j ∧ w = wr)
      case atStart => exact ⟨0, m + x.name.size + x.kind.size + x.tr.length, Nat.zero_le _, by omega, by go_num, rfl, rfl, rfl⟩
      case round =>
        obtain ⟨j, m, hj, hm, rfl, rfl, rfl, rfl⟩ := hrel
        by_cases hjl : j < x.tr.length
        · obtain ⟨b', o', rfl, _, hs⟩ := HT.out j hjl
          clear HT
          generalize x.tr[j] = s at *
          go_wp2
          · exact hR.out _ _ ⟨false, rfl, rfl⟩
          · exact hR.out _ _ ⟨false, rfl, rfl⟩
          · go_roundg (x.tr.length - (j + 1))
            case measure => omega
            case rel => exact ⟨j + 1, m + s.size, by omega, by omega, by go_num, by go_num, rfl, rfl⟩
        · go_wp2
          go_roundg (es.length - (k + 1))
          case measure => omega
          case rel => exact ⟨k + 1, m, by omega, by omega, by go_num, by go_num, rfl, rfl⟩
    · clear hev
      go_wp2
      exact hR.out _ _ ⟨true, rfl, rfl⟩


def Modest (e : Ev) : Prop := e.tr.length ≤ 1048576

theorem modest_step {es : List Ev} {k : Nat} (hlt : k < es.length) (hold : ∀ i (_ : i < k) (h' : i < es.length), Modest es[i]) :
    Hid (Modest es[k] → ∀ i (_ : i < k + 1) (h' : i < es.length), Modest es[i]) := by
  intro r i hi h'
  by_cases e : i = k
  · subst e; exact r
  · exact hold i (by omega) h'

set_option maxRecDepth 100000 in
set_option maxHeartbeats 1000000 in
theorem tooBig_any (ao : Option Addr) (P : Nat → Prop) (es : List Ev) (cap : Nat) (w : World) 
    (hev : EvsAt w P ao es) :
    Calls Try.prog 7 #[.slice ao es.length cap] w fun e w' => ∃ r, e = .returned (.bool r) ∧ (∃ q, w' = w.drewN q) ∧ (r = false → es.length ≤ 13107 ∧ ∀ i (h : i < es.length), Modest es[i]) := by
  refine hideR fun R' hR => ?_
  by_cases hbig : 1048576 < es.length
  · go_enter Try.func7, Try.ntmps7
    go_wp2
    exact hR.out _ _ ⟨true, rfl, ⟨0, rfl⟩, by simp⟩
  by_cases hbig2 : 1048576 < 80 * es.length
  · go_enter Try.func7, Try.ntmps7
    go_wp2
    exact hR.out _ _ ⟨true, rfl, ⟨0, rfl⟩, by simp⟩
  go_enter Try.func7, Try.ntmps7
  go_wp2
  go_loopg [3, 4] es.length (fun g z i wr => ∃ k m q : Nat, k ≤ es.length ∧ m ≤ 1048576 ∧ z = .int .i64 m ∧ i = .int .i64 k ∧ g = es.length - k ∧ wr = w.drewN q ∧ ∀ i (_ : i < k) (h' : i < es.length), Modest es[i])
  case atStart => exact ⟨0, 80 * es.length, 0, Nat.zero_le _, by omega, by go_num, rfl, rfl, rfl, by intro i h; omega⟩
  case round =>
    obtain ⟨k, m, q, hk, hm, rfl, rfl, rfl, rfl, hold⟩ := hrel
    by_cases hlt : k < es.length
    · obtain ⟨b, o, rfl, he⟩ := hev k hlt
      have HX := modest_step hlt hold
      clear hev hold
      generalize es[k] = x at *
      obtain ⟨to, tc, _, _, htr, h0, h1, h2, h3, h4, h5⟩ := he.cells
      clear he
      have HT := (show Hid _ from htr)
      clear htr
      go_wp2
      · exact hR.out _ _ ⟨true, rfl, ⟨q, rfl⟩, by simp⟩
      rotate_left
      · exact hR.out _ _ ⟨true, rfl, ⟨q, rfl⟩, by simp⟩
      · exact hR.out _ _ ⟨true, rfl, ⟨q, rfl⟩, by simp⟩
      go_quiet (fail)
      go_wp2
      · exact hR.out _ _ ⟨true, rfl, ⟨_, rfl⟩, by simp⟩
      go_loopg [3, 5] x.tr.length (fun g z i wr => ∃ j m q' : Nat, j ≤ x.tr.length ∧ m ≤ 1048576 ∧ z = .int .i64 m ∧ i = .int .i64 j ∧ g = x.tr.length - j ∧ wr = w.drewN q')
      case atStart => exact ⟨0, m + (x.name.size + x.kind.size + 16 * x.tr.length), _, Nat.zero_le _, by omega, by go_num, rfl, rfl, rfl⟩
      case round =>
        obtain ⟨j, m, q, hj, hm, rfl, rfl, rfl, rfl⟩ := hrel
        by_cases hjl : j < x.tr.length
        · obtain ⟨b', o', rfl, _, hs⟩ := HT.out j hjl
          clear HT
          generalize x.tr[j] = s at *
          go_wp2
          · exact hR.out _ _ ⟨true, rfl, ⟨_, rfl⟩, by simp⟩
          · exact hR.out _ _ ⟨true, rfl, ⟨_, rfl⟩, by simp⟩
          · go_roundg (x.tr.length - (j + 1))
            case measure => omega
            case rel => exact ⟨j + 1, m + s.size, q, by omega, by omega, by go_num, by go_num, rfl, rfl⟩
        · go_wp2
          go_roundg (es.length - (k + 1))
          case measure => omega
          case rel => exact ⟨k + 1, m, q, by omega, by omega, by go_num, by go_num, rfl, rfl, HX.out (by unfold Modest; omega)⟩
    · have HX : Hid (∀ i (h : i < es.length), Modest es[i]) := fun i h => hold i (by omega) h
      clear hold hev
      go_wp2
      exact hR.out _ _ ⟨false, rfl, ⟨q, rfl⟩, fun _ => ⟨by omega, HX.out⟩⟩
end Go.Proofs.Qxb6600401a
