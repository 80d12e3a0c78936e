/-
  zzASCIICase (16) at capital letters; THE WALK OF THE LAW FnCurrencyAcceptsEveryCode (7).
-/
import Derived.Test.Qxb6600663aCur
import Derived.Test.Qxb6600663aLaws
namespace Go.Proofs.Qxb6600663a
open Go.RowKit

/-- n zero bytes. -/
def Zc (n : Nat) : Array Value := madeCells #[.int .u8 0] n
theorem size_Zc (n : Nat) : (Zc n).size = n := size_madeCells _ _

theorem makeBytes (c : Nat) (hc : c ≤ 1000) (w : World) : (Instr.makeSlice 25 (.int .i64 (c : Int)) (.int .i64 (c : Int))).run Try.prog w = .ok (.slice (some ⟨w.heap.size, 0, none⟩) c c) (w.alloc (.cells (Zc c) 5)) := by
  obtain ⟨i, hi, hz, hs, hb⟩ := info_5
  have := run_make (P := Try.prog) w 25 5 i _ Try.underlying25 hi hz .i64 .i64 (c : Int) (c : Int) (by omega) (Int.le_refl _) (by rw [hb]; omega) (by omega)
  rw [hs] at this
  simpa [Zc, Value.cells] using this

/-- The letters lowered so far. -/
def Low (c : Array Value) (s : ByteArray) (k : Nat) : Prop := c.size = s.size ∧ ∀ i (_ : i < k) (h : i < s.size), c[i]? = some (.int .u8 ((s[i].toNat : Int) + 32))

theorem low_step {c : Array Value} {s : ByteArray} {k : Nat} (hk : k < s.size) (h : Low c s k) : Low (c.setIfInBounds k (.int .u8 ((s[k].toNat : Int) + 32))) s (k + 1) := by
  refine ⟨by simpa using h.1, fun i hi hl => ?_⟩
  rw [Array.getElem?_setIfInBounds]
  by_cases e : i = k
  · subst e; simp [h.1, hk]
  · rw [if_neg (fun q => e q.symm)]; exact h.2 i (by omega) hl
theorem low_get {c : Array Value} {s : ByteArray} {k : Nat} (hk : k < s.size) (h : Low c s k) : ∃ u, c[k]? = some u := ⟨c[k]'(by rw [h.1]; exact hk), by simp⟩

/-- The lowered text. -/
def lowered (s : ByteArray) : List UInt8 := s.data.toList.map (fun b => UInt8.ofNat (b.toNat + 32))

theorem lowered_len (s : ByteArray) : (lowered s).length = s.size := by simp [lowered]

theorem lowered_get (s : ByteArray) (h : ∀ i (h : i < s.size), isUp s[i].toNat) (i : Nat) (hi : i < (lowered s).length) : ((lowered s)[i]).toNat = (s[i]'(by rw [← lowered_len]; exact hi)).toNat + 32 := by
  have hi' : i < s.size := by rw [← lowered_len]; exact hi
  have hu := h i hi'
  unfold isUp at hu
  simp only [lowered, List.getElem_map]
  have e : s.data.toList[i]'(by simpa using hi') = s[i] := rfl
  rw [e]
  simp
  omega

theorem lowered_not (s : ByteArray) (h : CurOk s) : ¬ CurOk ⟨(lowered s).toArray⟩ := by
  intro q
  have hl : 0 < (lowered s).length := by rw [lowered_len, h.1]; omega
  have hs : 0 < (⟨(lowered s).toArray⟩ : ByteArray).size := hl
  have h1 := q.2 0 hs
  have h2 := h.2 0 (by rw [h.1]; omega)
  have h3 := lowered_get s h.2 0 hl
  have e : (⟨(lowered s).toArray⟩ : ByteArray)[0] = (lowered s)[0] := by show (lowered s).toArray[0] = _; simp
  rw [e, h3] at h1
  unfold isUp at h1 h2
  omega

set_option maxHeartbeats 1000000 in
theorem asciiLow_any (s : ByteArray) (hs : s.size ≤ 1000) (hu : ∀ i (h : i < s.size), isUp s[i].toNat) (w : World) :
    Calls Try.prog 16 #[.string s, .bool false] w fun e w' => e = .returned (.string ⟨(lowered s).toArray⟩) ∧ Below w.heap.size w w' := by
  refine hideR fun R' hR => ?_
  have mk := makeBytes s.size hs
  have hz := size_Zc s.size
  generalize Zc s.size = c0 at mk hz
  have hL : Low c0 s 0 := ⟨hz, fun i h => absurd h (Nat.not_lt_zero i)⟩
  have HU := hid hu
  clear hz hu
  go_enter Try.func16, Try.ntmps16
  go_wp2
  clear mk
  go_loopg [6, 7] s.size (fun g i c wr => ∃ k : Nat, ∃ ca : Array Value, k ≤ s.size ∧ i = .int .i64 k ∧ g = s.size - k ∧ Low ca s k ∧ wr = w.alloc (.cells ca 5))
  case atStart => exact ⟨0, c0, Nat.zero_le _, rfl, rfl, hL, rfl⟩
  case round =>
    clear hL
    obtain ⟨k, ca, hk, rfl, rfl, hL, rfl⟩ := hrel
    by_cases hlt : k < s.size
    · have hup := HU.out k hlt
      unfold isUp at hup
      obtain ⟨h1, h2⟩ := hup
      obtain ⟨u, hu⟩ := low_get hlt hL
      have HL := hid (low_step hlt hL)
      clear hL
      have d1 : decide ((65 : Int) ≤ (s[k].toNat : Int)) = true := by simp; omega
      have d2 : decide ((s[k].toNat : Int) ≤ 90) = true := by simp; omega
      go_wp2
      go_roundg (s.size - (k + 1))
      case measure => omega
      case rel => exact ⟨k + 1, _, by omega, by go_num, rfl, HL.out, rfl⟩
    · obtain rfl : k = s.size := by omega
      have HL := hid hL
      clear hL
      go_wp2_with (refine conv_str (.tmp 47) ?_)
      refine ⟨⟨w.heap.size, 0, none⟩, s.size, s.size, lowered s, rfl, lowered_len s, fun j hj => ?_, ?_⟩
      · rw [Addr.add_mid, Nat.zero_add, World.cell?_alloc_at _ _ _ _ rfl, lowered_get s HU.out j hj]
        have hj' : j < s.size := by rw [← lowered_len]; exact hj
        rw [HL.out.2 j hj' hj']
        simp
      · go_wp2
        exact hR.out _ _ ⟨rfl, (Below.refl _ _).alloc (Nat.le_refl _) _⟩
end Go.Proofs.Qxb6600663a
