/-
  SLICES OF STRINGS AND BOOLS THAT COME IN: zzBytes (20, 24), the bounds (21, 25), the clones (22, 26).
-/
import Derived.Test.Qxb6600663aBase
namespace Go.Proofs.Qxb6600663a
open Go.RowKit

/-- The strings of a slice lie in w. -/
def SAt (w : World) (ao : Option Addr) (ss : List ByteArray) : Prop := ∀ i (h : i < ss.length), ∃ b o, ao = some ⟨b, o, none⟩ ∧ w.cell? ⟨b, o + i, none⟩ = some (.string ss[i])
/-- The bools of a slice lie in w. -/
def BAt (w : World) (ao : Option Addr) (bs : List Bool) : Prop := ∀ i (h : i < bs.length), ∃ b o, ao = some ⟨b, o, none⟩ ∧ w.cell? ⟨b, o + i, none⟩ = some (.bool bs[i])

theorem SAt.below {w w' : World} {ao : Option Addr} {ss : List ByteArray} (h : SAt w ao ss) (hB : Below w.heap.size w w') : SAt w' ao ss := fun i hi => by
  obtain ⟨b, o, e, hc⟩ := h i hi
  exact ⟨b, o, e, cell_later hB hc⟩
theorem BAt.below {w w' : World} {ao : Option Addr} {bs : List Bool} (h : BAt w ao bs) (hB : Below w.heap.size w w') : BAt w' ao bs := fun i hi => by
  obtain ⟨b, o, e, hc⟩ := h i hi
  exact ⟨b, o, e, cell_later hB hc⟩

/-- Each string so far is within the bound. -/
def Short (ss : List ByteArray) (k : Nat) : Prop := ∀ j (_ : j < k) (h : j < ss.length), ss[j].size ≤ 1048576
theorem short_step {ss : List ByteArray} {k : Nat} (h : Short ss k) (hk : k < ss.length) : ss[k].size ≤ 1048576 → Short ss (k + 1) := fun hs j hj hl => by
  by_cases e : j = k
  · subst e; exact hs
  · exact h j (by omega) hl


set_option maxRecDepth 100000 in
set_option maxHeartbeats 2000000 in
theorem bytes20 (ao bo : Option Addr) (xs ys : List ByteArray) (c1 c2 : Nat) (sp : Int) (f t : ByteArray) (pr : Bool) (w : World) (hx : SAt w ao xs) (hy : SAt w bo ys) :
    Calls Try.prog 20 #[.slice ao xs.length c1, .slice bo ys.length c2, .int .u8 sp, .string f, .bool pr, .string t] w fun e w' => ∃ r, e = .returned (.bool r) ∧ w' = w := by
  refine hideR fun R' hR => ?_
  by_cases hbig : 1048576 < xs.length
  · go_enter Try.func20, Try.ntmps20
    go_wp2
    exact hR.out _ _ ⟨false, rfl, rfl⟩
  go_enter Try.func20, Try.ntmps20
  go_wp2
  go_loopg [13, 14] xs.length (fun g z i wr => ∃ k m : Nat, k ≤ xs.length ∧ m ≤ 1048576 ∧ z = .int .i64 m ∧ i = .int .i64 k ∧ g = xs.length - k ∧ w = wr)
  case atStart => exact ⟨0, xs.length, Nat.zero_le _, by omega, rfl, rfl, rfl, rfl⟩
  case round =>
    obtain ⟨k, m, hk, hm, rfl, rfl, rfl, rfl⟩ := hrel
    by_cases hlt : k < xs.length
    · obtain ⟨b, o, rfl, hc⟩ := hx k hlt
      clear hx hy
      generalize xs[k] = s at *
      go_wp2
      · exact hR.out _ _ ⟨false, rfl, rfl⟩
      · exact hR.out _ _ ⟨false, rfl, rfl⟩
      · go_roundg (xs.length - (k + 1))
        case measure => omega
        case rel => exact ⟨k + 1, m + s.size, by omega, by omega, by go_num, by go_num, rfl, rfl⟩
    · clear hx
      by_cases hbig2 : 1048576 < ys.length
      · go_wp2
        exact hR.out _ _ ⟨false, rfl, rfl⟩
      by_cases hbig3 : 1048576 < m + ys.length
      · go_wp2
        exact hR.out _ _ ⟨false, rfl, rfl⟩
      go_wp2
      go_loopg [13, 15] ys.length (fun g z i wr => ∃ k m : Nat, k ≤ ys.length ∧ m ≤ 1048576 ∧ z = .int .i64 m ∧ i = .int .i64 k ∧ g = ys.length - k ∧ w = wr)
      case atStart => exact ⟨0, m + ys.length, Nat.zero_le _, by omega, by go_num, rfl, rfl, rfl⟩
      case round =>
        obtain ⟨k, m, hk, hm, rfl, rfl, rfl, rfl⟩ := hrel
        by_cases hlt : k < ys.length
        · obtain ⟨b, o, rfl, hc⟩ := hy k hlt
          clear hy
          generalize ys[k] = s at *
          go_wp2
          · exact hR.out _ _ ⟨false, rfl, rfl⟩
          · exact hR.out _ _ ⟨false, rfl, rfl⟩
          · go_roundg (ys.length - (k + 1))
            case measure => omega
            case rel => exact ⟨k + 1, m + s.size, by omega, by omega, by go_num, by go_num, rfl, rfl⟩
        · clear hy
          go_wp2
          all_goals first | exact hR.out _ _ ⟨false, rfl, rfl⟩ | exact hR.out _ _ ⟨true, rfl, rfl⟩

set_option maxRecDepth 100000 in
set_option maxHeartbeats 2000000 in
theorem bytes24 (ao bo : Option Addr) (xs ys : List ByteArray) (c1 c2 : Nat) (co : Option Addr) (n3 c3 : Nat) (w : World) (hx : SAt w ao xs) (hy : SAt w bo ys) :
    Calls Try.prog 24 #[.slice ao xs.length c1, .slice bo ys.length c2, .slice co n3 c3] w fun e w' => ∃ r, e = .returned (.bool r) ∧ w' = w := by
  refine hideR fun R' hR => ?_
  by_cases hbig : 1048576 < xs.length
  · go_enter Try.func24, Try.ntmps24
    go_wp2
    exact hR.out _ _ ⟨false, rfl, rfl⟩
  go_enter Try.func24, Try.ntmps24
  go_wp2
  go_loopg [7, 8] xs.length (fun g z i wr => ∃ k m : Nat, k ≤ xs.length ∧ m ≤ 1048576 ∧ z = .int .i64 m ∧ i = .int .i64 k ∧ g = xs.length - k ∧ w = wr)
  case atStart => exact ⟨0, xs.length, Nat.zero_le _, by omega, rfl, rfl, rfl, rfl⟩
  case round =>
    obtain ⟨k, m, hk, hm, rfl, rfl, rfl, rfl⟩ := hrel
    by_cases hlt : k < xs.length
    · obtain ⟨b, o, rfl, hc⟩ := hx k hlt
      clear hx hy
      generalize xs[k] = s at *
      go_wp2
      · exact hR.out _ _ ⟨false, rfl, rfl⟩
      · exact hR.out _ _ ⟨false, rfl, rfl⟩
      · go_roundg (xs.length - (k + 1))
        case measure => omega
        case rel => exact ⟨k + 1, m + s.size, by omega, by omega, by go_num, by go_num, rfl, rfl⟩
    · clear hx
      by_cases hbig2 : 1048576 < ys.length
      · go_wp2
        exact hR.out _ _ ⟨false, rfl, rfl⟩
      by_cases hbig3 : 1048576 < m + ys.length
      · go_wp2
        exact hR.out _ _ ⟨false, rfl, rfl⟩
      go_wp2
      go_loopg [7, 9] ys.length (fun g z i wr => ∃ k m : Nat, k ≤ ys.length ∧ m ≤ 1048576 ∧ z = .int .i64 m ∧ i = .int .i64 k ∧ g = ys.length - k ∧ w = wr)
      case atStart => exact ⟨0, m + ys.length, Nat.zero_le _, by omega, by go_num, rfl, rfl, rfl⟩
      case round =>
        obtain ⟨k, m, hk, hm, rfl, rfl, rfl, rfl⟩ := hrel
        by_cases hlt : k < ys.length
        · obtain ⟨b, o, rfl, hc⟩ := hy k hlt
          clear hy
          generalize ys[k] = s at *
          go_wp2
          · exact hR.out _ _ ⟨false, rfl, rfl⟩
          · exact hR.out _ _ ⟨false, rfl, rfl⟩
          · go_roundg (ys.length - (k + 1))
            case measure => omega
            case rel => exact ⟨k + 1, m + s.size, by omega, by omega, by go_num, by go_num, rfl, rfl⟩
        · clear hy
          go_wp2
          all_goals first | exact hR.out _ _ ⟨false, rfl, rfl⟩ | exact hR.out _ _ ⟨true, rfl, rfl⟩

/-- What has been copied so far. -/
def SFilled (c : Array Value) (ss : List ByteArray) (j : Nat) : Prop := c.size = ss.length ∧ ∀ i (_ : i < j) (h : i < ss.length), c[i]? = some (.string ss[i])
theorem sfilled_step {c : Array Value} {ss : List ByteArray} {j : Nat} (hj : j < ss.length) (h : SFilled c ss j) : SFilled (c.setIfInBounds j (.string ss[j])) ss (j + 1) := by
  refine ⟨by simpa using h.1, fun i hi hl => ?_⟩
  rw [Array.getElem?_setIfInBounds]
  by_cases e : i = j
  · subst e; simp [h.1, hj]
  · rw [if_neg (fun q => e q.symm)]; exact h.2 i (by omega) hl
theorem sfilled_get {c : Array Value} {ss : List ByteArray} {j : Nat} (hj : j < ss.length) (h : SFilled c ss j) : ∃ u, c[j]? = some u := ⟨c[j]'(by rw [h.1]; exact hj), by simp [h.1, hj]⟩
theorem sat_filled {w : World} {c : Array Value} {ss : List ByteArray} {t : TypeId} (h : SFilled c ss ss.length) : SAt (w.alloc (.cells c t)) (some ⟨w.heap.size, 0, none⟩) ss :=
  fun i hi => ⟨_, _, rfl, by rw [World.cell?_alloc_at _ _ _ _ rfl]; simpa using h.2 i hi hi⟩

def ZS (n : Nat) : Array Value := madeCells #[.string ⟨#[]⟩] n
theorem size_ZS (n : Nat) : (ZS n).size = n := size_madeCells _ _
theorem make32 (n : Nat) (hn : n ≤ 1048576) (w : World) : (Instr.makeSlice 32 (.int .i64 (n : Int)) (.int .i64 (n : Int))).run Try.prog w = .ok (.slice (some ⟨w.heap.size, 0, none⟩) n n) (w.alloc (.cells (ZS n) 9)) := by
  have h : (Try.prog.info? 9).map (fun i => (i.zero, i.size, i.bytes)) = some (some (.string ⟨#[]⟩), 1, 16) := by kernel_rfl
  obtain ⟨i, hi, hzz⟩ := Option.map_eq_some_iff.1 h
  simp only [Prod.mk.injEq] at hzz
  obtain ⟨hz, hs, hb⟩ := hzz
  have := run_make (P := Try.prog) w 32 9 i _ Try.underlying32 hi hz .i64 .i64 (n : Int) (n : Int) (by omega) (Int.le_refl _) (by rw [hb]; omega) (by omega)
  rw [hs] at this
  simpa [ZS, Value.cells] using this

set_option maxHeartbeats 1000000 in
theorem cloneS_any (ao : Option Addr) (ss : List ByteArray) (cap : Nat) (w : World) (hn : ao = none → ss = []) (hl : ss.length ≤ 65536) (hs : SAt w ao ss) :
    Calls Try.prog 22 #[.slice ao ss.length cap] w fun e w' => ∃ ao', e = .returned (.slice ao' ss.length ss.length) ∧ SAt w' ao' ss ∧ Below w.heap.size w w' := by
  refine hideR fun R' hR => ?_
  have q32 : ∀ (w : World) (a : Option Addr) (n c : Nat), (binOp .eql 32 (.slice a n c) (.slice none 0 0)).run Try.prog w = .ok (.bool a.isNone) w := fun w a n c => Lib.run_eql_slice_nil w _ _ _ _ _ _ _ Try.underlying32
  cases ao with
  | none =>
    obtain rfl := hn rfl
    go_enter Try.func22, Try.ntmps22
    go_wp2
    exact hR.out _ _ ⟨none, rfl, fun i h => absurd h (Nat.not_lt_zero i), Below.refl _ _⟩
  | some a =>
    have mk := make32 ss.length (by omega)
    have hz := size_ZS ss.length
    generalize ZS ss.length = c0 at mk hz
    have hF : SFilled c0 ss 0 := ⟨hz, fun i h => absurd h (Nat.not_lt_zero i)⟩
    clear hz hn
    go_enter Try.func22, Try.ntmps22
    go_wp2
    clear mk
    go_loopg [4] ss.length (fun g i wr => ∃ k : Nat, ∃ c : Array Value, k ≤ ss.length ∧ i = .int .i64 k ∧ g = ss.length - k ∧ SFilled c ss k ∧ wr = w.alloc (.cells c 9))
    case atStart => exact ⟨0, c0, Nat.zero_le _, rfl, rfl, hF, rfl⟩
    case round =>
      clear hF
      obtain ⟨k, c, hk, rfl, rfl, hF, rfl⟩ := hrel
      by_cases hlt : k < ss.length
      · obtain ⟨b, o, hao, hc⟩ := hs k hlt
        obtain rfl := Option.some.inj hao
        obtain ⟨u, hu⟩ := sfilled_get hlt hF
        have HF := hid (sfilled_step hlt hF)
        have hbb := World.block_lt_of_cell? _ _ hc
        clear hF hs
        generalize ss[k] = s at *
        go_wp2
        go_roundg (ss.length - (k + 1))
        case measure => omega
        case rel => exact ⟨k + 1, _, by omega, by go_num, rfl, HF.out, rfl⟩
      · obtain rfl : k = ss.length := by omega
        have HF := hid hF
        clear hF hs
        go_wp2
        exact hR.out _ _ ⟨_, rfl, sat_filled HF.out, (Below.refl _ _).alloc (Nat.le_refl _) _⟩

/-- What has been copied so far. -/
def BFilled (c : Array Value) (ss : List Bool) (j : Nat) : Prop := c.size = ss.length ∧ ∀ i (_ : i < j) (h : i < ss.length), c[i]? = some (.bool ss[i])
theorem bfilled_step {c : Array Value} {ss : List Bool} {j : Nat} (hj : j < ss.length) (h : BFilled c ss j) : BFilled (c.setIfInBounds j (.bool ss[j])) ss (j + 1) := by
  refine ⟨by simpa using h.1, fun i hi hl => ?_⟩
  rw [Array.getElem?_setIfInBounds]
  by_cases e : i = j
  · subst e; simp [h.1, hj]
  · rw [if_neg (fun q => e q.symm)]; exact h.2 i (by omega) hl
theorem bfilled_get {c : Array Value} {ss : List Bool} {j : Nat} (hj : j < ss.length) (h : BFilled c ss j) : ∃ u, c[j]? = some u := ⟨c[j]'(by rw [h.1]; exact hj), by simp [h.1, hj]⟩
theorem bat_filled {w : World} {c : Array Value} {ss : List Bool} {t : TypeId} (h : BFilled c ss ss.length) : BAt (w.alloc (.cells c t)) (some ⟨w.heap.size, 0, none⟩) ss :=
  fun i hi => ⟨_, _, rfl, by rw [World.cell?_alloc_at _ _ _ _ rfl]; simpa using h.2 i hi hi⟩

def ZB (n : Nat) : Array Value := madeCells #[.bool false] n
theorem size_ZB (n : Nat) : (ZB n).size = n := size_madeCells _ _
theorem make42 (n : Nat) (hn : n ≤ 1048576) (w : World) : (Instr.makeSlice 42 (.int .i64 (n : Int)) (.int .i64 (n : Int))).run Try.prog w = .ok (.slice (some ⟨w.heap.size, 0, none⟩) n n) (w.alloc (.cells (ZB n) 4)) := by
  have h : (Try.prog.info? 4).map (fun i => (i.zero, i.size, i.bytes)) = some (some (.bool false), 1, 1) := by kernel_rfl
  obtain ⟨i, hi, hzz⟩ := Option.map_eq_some_iff.1 h
  simp only [Prod.mk.injEq] at hzz
  obtain ⟨hz, hs, hb⟩ := hzz
  have := run_make (P := Try.prog) w 42 4 i _ Try.underlying42 hi hz .i64 .i64 (n : Int) (n : Int) (by omega) (Int.le_refl _) (by rw [hb]; omega) (by omega)
  rw [hs] at this
  simpa [ZB, Value.cells] using this

set_option maxHeartbeats 1000000 in
theorem cloneB_any (ao : Option Addr) (ss : List Bool) (cap : Nat) (w : World) (hn : ao = none → ss = []) (hl : ss.length ≤ 65536) (hs : BAt w ao ss) :
    Calls Try.prog 26 #[.slice ao ss.length cap] w fun e w' => ∃ ao', e = .returned (.slice ao' ss.length ss.length) ∧ BAt w' ao' ss ∧ Below w.heap.size w w' := by
  refine hideR fun R' hR => ?_
  have q42 : ∀ (w : World) (a : Option Addr) (n c : Nat), (binOp .eql 42 (.slice a n c) (.slice none 0 0)).run Try.prog w = .ok (.bool a.isNone) w := fun w a n c => Lib.run_eql_slice_nil w _ _ _ _ _ _ _ Try.underlying42
  cases ao with
  | none =>
    obtain rfl := hn rfl
    go_enter Try.func26, Try.ntmps26
    go_wp2
    exact hR.out _ _ ⟨none, rfl, fun i h => absurd h (Nat.not_lt_zero i), Below.refl _ _⟩
  | some a =>
    have mk := make42 ss.length (by omega)
    have hz := size_ZB ss.length
    generalize ZB ss.length = c0 at mk hz
    have hF : BFilled c0 ss 0 := ⟨hz, fun i h => absurd h (Nat.not_lt_zero i)⟩
    clear hz hn
    go_enter Try.func26, Try.ntmps26
    go_wp2
    clear mk
    go_loopg [4] ss.length (fun g i wr => ∃ k : Nat, ∃ c : Array Value, k ≤ ss.length ∧ i = .int .i64 k ∧ g = ss.length - k ∧ BFilled c ss k ∧ wr = w.alloc (.cells c 4))
    case atStart => exact ⟨0, c0, Nat.zero_le _, rfl, rfl, hF, rfl⟩
    case round =>
      clear hF
      obtain ⟨k, c, hk, rfl, rfl, hF, rfl⟩ := hrel
      by_cases hlt : k < ss.length
      · obtain ⟨b, o, hao, hc⟩ := hs k hlt
        obtain rfl := Option.some.inj hao
        obtain ⟨u, hu⟩ := bfilled_get hlt hF
        have HF := hid (bfilled_step hlt hF)
        have hbb := World.block_lt_of_cell? _ _ hc
        clear hF hs
        generalize ss[k] = s at *
        go_wp2
        go_roundg (ss.length - (k + 1))
        case measure => omega
        case rel => exact ⟨k + 1, _, by omega, by go_num, rfl, HF.out, rfl⟩
      · obtain rfl : k = ss.length := by omega
        have HF := hid hF
        clear hF hs
        go_wp2
        exact hR.out _ _ ⟨_, rfl, bat_filled HF.out, (Below.refl _ _).alloc (Nat.le_refl _) _⟩

set_option maxRecDepth 100000 in
set_option maxHeartbeats 2000000 in
theorem in21 (ao bo : Option Addr) (xs ys : List ByteArray) (c1 c2 : Nat) (f t : ByteArray) (w : World) (hx : SAt w ao xs) (hy : SAt w bo ys) :
    Calls Try.prog 21 #[.slice ao xs.length c1, .slice bo ys.length c2, .string f, .string t] w fun e w' => ∃ r, e = .returned (.bool r) ∧ w' = w ∧ (r = true → xs.length ≤ 65536 ∧ ys.length ≤ 65536 ∧ t.size ≤ 1048576) := by
  refine hideR fun R' hR => ?_
  by_cases hb1 : 65536 < xs.length
  · have d1 : decide ((65536 : Int) < (xs.length : Int)) = true := by simp; omega
    go_enter Try.func21, Try.ntmps21
    go_wp2
    exact hR.out _ _ ⟨false, rfl, rfl, by simp⟩
  have d1 : decide ((65536 : Int) < (xs.length : Int)) = false := by simp; omega
  by_cases hb2 : 65536 < ys.length
  · have d2 : decide ((65536 : Int) < (ys.length : Int)) = true := by simp; omega
    go_enter Try.func21, Try.ntmps21
    go_wp2
    exact hR.out _ _ ⟨false, rfl, rfl, by simp⟩
  have d2 : decide ((65536 : Int) < (ys.length : Int)) = false := by simp; omega
  by_cases hb3 : 1048576 < f.size
  · have d3 : decide ((1048576 : Int) < (f.size : Int)) = true := by simp; omega
    go_enter Try.func21, Try.ntmps21
    go_wp2
    exact hR.out _ _ ⟨false, rfl, rfl, by simp⟩
  have d3 : decide ((1048576 : Int) < (f.size : Int)) = false := by simp; omega
  by_cases hb4 : 1048576 < t.size
  · have d4 : decide ((1048576 : Int) < (t.size : Int)) = true := by simp; omega
    go_enter Try.func21, Try.ntmps21
    go_wp2
    exact hR.out _ _ ⟨false, rfl, rfl, by simp⟩
  have d4 : decide ((1048576 : Int) < (t.size : Int)) = false := by simp; omega
  by_cases hb5 : 1048576 < 16 * xs.length + 16 * ys.length + f.size + t.size
  · go_enter Try.func21, Try.ntmps21
    go_wp2
    exact hR.out _ _ ⟨false, rfl, rfl, by simp⟩
  have HB : Hid (xs.length ≤ 65536 ∧ ys.length ≤ 65536 ∧ t.size ≤ 1048576) := ⟨by omega, by omega, by omega⟩
  go_enter Try.func21, Try.ntmps21
  go_wp2
  go_loopg [9, 10] xs.length (fun g z i wr => ∃ k m : Nat, k ≤ xs.length ∧ m ≤ 1048576 ∧ z = .int .i64 m ∧ i = .int .i64 k ∧ g = xs.length - k ∧ w = wr)
  case atStart => exact ⟨0, 16 * xs.length + 16 * ys.length + f.size + t.size, Nat.zero_le _, by omega, by go_num, rfl, rfl, rfl⟩
  case round =>
    obtain ⟨k, m, hk, hm, rfl, rfl, rfl, rfl⟩ := hrel
    by_cases hlt : k < xs.length
    · obtain ⟨b, o, rfl, hc⟩ := hx k hlt
      clear hx hy
      generalize xs[k] = s at *
      go_wp2
      · exact hR.out _ _ ⟨false, rfl, rfl, by simp⟩
      · exact hR.out _ _ ⟨false, rfl, rfl, by simp⟩
      · go_roundg (xs.length - (k + 1))
        case measure => omega
        case rel => exact ⟨k + 1, m + s.size, by omega, by omega, by go_num, by go_num, rfl, rfl⟩
    · clear hx
      go_wp2
      go_loopg [9, 11] ys.length (fun g z i wr => ∃ k m : Nat, k ≤ ys.length ∧ m ≤ 1048576 ∧ z = .int .i64 m ∧ i = .int .i64 k ∧ g = ys.length - k ∧ w = wr)
      case atStart => exact ⟨0, m, Nat.zero_le _, by omega, rfl, rfl, rfl, rfl⟩
      case round =>
        obtain ⟨k, m, hk, hm, rfl, rfl, rfl, rfl⟩ := hrel
        by_cases hlt : k < ys.length
        · obtain ⟨b, o, rfl, hc⟩ := hy k hlt
          clear hy
          generalize ys[k] = s at *
          go_wp2
          · exact hR.out _ _ ⟨false, rfl, rfl, by simp⟩
          · exact hR.out _ _ ⟨false, rfl, rfl, by simp⟩
          · go_roundg (ys.length - (k + 1))
            case measure => omega
            case rel => exact ⟨k + 1, m + s.size, by omega, by omega, by go_num, by go_num, rfl, rfl⟩
        · clear hy
          go_wp2
          exact hR.out _ _ ⟨true, rfl, rfl, fun _ => HB.out⟩

set_option maxRecDepth 100000 in
set_option maxHeartbeats 2000000 in
theorem in25 (ao bo co : Option Addr) (xs ys : List ByteArray) (n3 c1 c2 c3 : Nat) (w : World) (hx : SAt w ao xs) (hy : SAt w bo ys) :
    Calls Try.prog 25 #[.slice ao xs.length c1, .slice bo ys.length c2, .slice co n3 c3] w fun e w' => ∃ r, e = .returned (.bool r) ∧ w' = w ∧ (r = true → xs.length ≤ 65536 ∧ ys.length ≤ 65536 ∧ n3 ≤ 65536 ∧ Short ys ys.length) := by
  refine hideR fun R' hR => ?_
  by_cases hb1 : 65536 < xs.length
  · have d1 : decide ((65536 : Int) < (xs.length : Int)) = true := by simp; omega
    go_enter Try.func25, Try.ntmps25
    go_wp2
    exact hR.out _ _ ⟨false, rfl, rfl, by simp⟩
  have d1 : decide ((65536 : Int) < (xs.length : Int)) = false := by simp; omega
  by_cases hb2 : 65536 < ys.length
  · have d2 : decide ((65536 : Int) < (ys.length : Int)) = true := by simp; omega
    go_enter Try.func25, Try.ntmps25
    go_wp2
    exact hR.out _ _ ⟨false, rfl, rfl, by simp⟩
  have d2 : decide ((65536 : Int) < (ys.length : Int)) = false := by simp; omega
  by_cases hb3 : 65536 < n3
  · have d3 : decide ((65536 : Int) < (n3 : Int)) = true := by simp; omega
    go_enter Try.func25, Try.ntmps25
    go_wp2
    exact hR.out _ _ ⟨false, rfl, rfl, by simp⟩
  have d3 : decide ((65536 : Int) < (n3 : Int)) = false := by simp; omega
  by_cases hb5 : 1048576 < 16 * xs.length + 16 * ys.length + n3
  · go_enter Try.func25, Try.ntmps25
    go_wp2
    exact hR.out _ _ ⟨false, rfl, rfl, by simp⟩
  have HB : Hid (xs.length ≤ 65536 ∧ ys.length ≤ 65536 ∧ n3 ≤ 65536) := ⟨by omega, by omega, by omega⟩
  go_enter Try.func25, Try.ntmps25
  go_wp2
  go_loopg [7, 8] xs.length (fun g z i wr => ∃ k m : Nat, k ≤ xs.length ∧ m ≤ 1048576 ∧ z = .int .i64 m ∧ i = .int .i64 k ∧ g = xs.length - k ∧ w = wr)
  case atStart => exact ⟨0, 16 * xs.length + 16 * ys.length + n3, Nat.zero_le _, by omega, by go_num, rfl, rfl, rfl⟩
  case round =>
    obtain ⟨k, m, hk, hm, rfl, rfl, rfl, rfl⟩ := hrel
    by_cases hlt : k < xs.length
    · obtain ⟨b, o, rfl, hc⟩ := hx k hlt
      clear hx hy
      generalize xs[k] = s at *
      go_wp2
      · exact hR.out _ _ ⟨false, rfl, rfl, by simp⟩
      · exact hR.out _ _ ⟨false, rfl, rfl, by simp⟩
      · go_roundg (xs.length - (k + 1))
        case measure => omega
        case rel => exact ⟨k + 1, m + s.size, by omega, by omega, by go_num, by go_num, rfl, rfl⟩
    · clear hx
      go_wp2
      go_loopg [7, 9] ys.length (fun g z i wr => ∃ k m : Nat, k ≤ ys.length ∧ m ≤ 1048576 ∧ z = .int .i64 m ∧ i = .int .i64 k ∧ g = ys.length - k ∧ w = wr ∧ Short ys k)
      case atStart => exact ⟨0, m, Nat.zero_le _, by omega, rfl, rfl, rfl, rfl, fun j h => absurd h (Nat.not_lt_zero j)⟩
      case round =>
        obtain ⟨k, m, hk, hm, rfl, rfl, rfl, rfl, hsh⟩ := hrel
        by_cases hlt : k < ys.length
        · obtain ⟨b, o, rfl, hc⟩ := hy k hlt
          have HS := hid (short_step hsh hlt)
          clear hy hsh
          generalize ys[k] = s at *
          go_wp2
          · exact hR.out _ _ ⟨false, rfl, rfl, by simp⟩
          · exact hR.out _ _ ⟨false, rfl, rfl, by simp⟩
          · go_roundg (ys.length - (k + 1))
            case measure => omega
            case rel => exact ⟨k + 1, m + s.size, by omega, by omega, by go_num, by go_num, rfl, rfl, HS.out (by omega)⟩
        · obtain rfl : k = ys.length := by omega
          have HS := hid hsh
          clear hy hsh
          go_wp2
          exact hR.out _ _ ⟨true, rfl, rfl, fun _ => ⟨HB.out.1, HB.out.2.1, HB.out.2.2, HS.out⟩⟩

end Go.Proofs.Qxb6600663a
