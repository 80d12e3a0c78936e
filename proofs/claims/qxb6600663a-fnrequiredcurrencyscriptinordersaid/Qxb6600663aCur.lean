/-
  currency (29), ZZcurrency (18), zzIndexIn (28), zzCurrencyModel (19).
-/
import Derived.Test.Qxb6600663aBase
namespace Go.Proofs.Qxb6600663a
open Go.RowKit

def isUp (c : Nat) : Prop := 65 ≤ c ∧ c ≤ 90
/-- A currency code. -/
def CurOk (s : ByteArray) : Prop := s.size = 3 ∧ ∀ i (h : i < s.size), isUp s[i].toNat

theorem up_step {s : ByteArray} {k : Nat} (hold : ∀ j (_ : j < k) (h : j < s.size), isUp s[j].toNat) (hlt : k < s.size) (h : isUp s[k].toNat) : ∀ j (_ : j < k + 1) (h : j < s.size), isUp s[j].toNat := by
  intro j hj hjs
  by_cases e : j = k
  · subst e; exact h
  · exact hold j (by omega) hjs

set_option maxHeartbeats 1000000 in
theorem currency_any (s : ByteArray) (w : World) :
    Calls Try.prog 29 #[.string s] w fun e w' => ∃ r, e = .returned (.bool r) ∧ w' = w ∧ (r = true ↔ CurOk s) := by
  refine hideR fun R' hR => ?_
  by_cases hsz : s.size = 3
  · have hsz' : ((s.size : Int) != 3) = false := by simp [hsz]
    have hs1 : s.size ≤ 3 := by omega
    have HZ := hid hsz
    clear hsz
    go_enter Try.func29, Try.ntmps29
    go_wp2
    go_loopg [3] s.size (fun g i wr => ∃ k : Nat, k ≤ s.size ∧ i = .int .i64 k ∧ g = s.size - k ∧ w = wr ∧ ∀ j (_ : j < k) (h : j < s.size), isUp s[j].toNat)
    case atStart => exact ⟨0, Nat.zero_le _, rfl, rfl, rfl, fun j h => absurd h (Nat.not_lt_zero j)⟩
    case round =>
      obtain ⟨k, hk, rfl, rfl, rfl, hold⟩ := hrel
      by_cases hlt : k < s.size
      · have HO := hid (up_step hold hlt)
        clear hold
        rcases (show s[k].toNat < 65 ∨ 90 < s[k].toNat ∨ (65 ≤ s[k].toNat ∧ s[k].toNat ≤ 90) by omega) with h | h | ⟨h, h'⟩
        · have HN : Hid (¬ CurOk s) := fun q => by have := (q.2 k hlt).1; omega
          have d0 : decide ((s[k].toNat : Int) < 65) = true := by simp; omega
          go_wp2
          exact hR.out _ _ ⟨false, rfl, rfl, by simp [HN.out]⟩
        · have HN : Hid (¬ CurOk s) := fun q => by have := (q.2 k hlt).2; omega
          have d0 : decide ((s[k].toNat : Int) < 65) = false := by simp; omega
          have d1 : decide ((90 : Int) < (s[k].toNat : Int)) = true := by simp; omega
          go_wp2
          exact hR.out _ _ ⟨false, rfl, rfl, by simp [HN.out]⟩
        · have HU : Hid (isUp s[k].toNat) := ⟨h, h'⟩
          have d0 : decide ((s[k].toNat : Int) < 65) = false := by simp; omega
          have d1 : decide ((90 : Int) < (s[k].toNat : Int)) = false := by simp; omega
          go_wp2
          go_roundg (s.size - (k + 1))
          case measure => omega
          case rel => exact ⟨k + 1, by omega, by go_num, rfl, rfl, HO.out HU.out⟩
      · have HU : Hid (CurOk s) := ⟨HZ.out, fun j h => hold j (by omega) h⟩
        clear hold
        go_wp2
        exact hR.out _ _ ⟨true, rfl, rfl, by simp [HU.out]⟩
  · have hsz' : ((s.size : Int) != 3) = true := by simp; omega
    go_enter Try.func29, Try.ntmps29
    go_wp2
    exact hR.out _ _ ⟨false, rfl, rfl, by simp [CurOk, hsz]⟩

theorem zzcurrency_any (s : ByteArray) (w : World) :
    Calls Try.prog 18 #[.string s] w fun e w' => ∃ r, e = .returned (.bool r) ∧ w' = w ∧ (r = true ↔ CurOk s) := by
  refine hideR fun R' hR => ?_
  go_enter Try.func18, Try.ntmps18
  go_wp2_with fail
  refine (currency_any s w).mono ?_
  rintro e w1 ⟨r, rfl, hw, hr⟩
  rw [hw]
  have HR := hid hr
  clear hr hw
  go_wp2
  exact hR.out _ _ ⟨r, rfl, rfl, HR.out⟩

set_option maxHeartbeats 1000000 in
theorem indexIn_any (c : Int) (set : ByteArray) (hs : set.size ≤ 1000) (w : World) :
    Calls Try.prog 28 #[.int .u8 c, .string set] w fun e w' => ∃ v : Int, e = .returned (.int .i64 v) ∧ w' = w ∧ (0 ≤ v ↔ ∃ j, ∃ h : j < set.size, (set[j].toNat : Int) = c) := by
  refine hideR fun R' hR => ?_
  go_enter Try.func28, Try.ntmps28
  go_wp2
  go_loopg [5] set.size (fun g i wr => ∃ k : Nat, k ≤ set.size ∧ i = .int .i64 k ∧ g = set.size - k ∧ w = wr ∧ ∀ j (_ : j < k) (h : j < set.size), ¬ (set[j].toNat : Int) = c)
  case atStart => exact ⟨0, Nat.zero_le _, rfl, rfl, rfl, fun j h => absurd h (Nat.not_lt_zero j)⟩
  case round =>
    obtain ⟨k, hk, rfl, rfl, rfl, hold⟩ := hrel
    have HO := hid hold
    clear hold
    by_cases hlt : k < set.size
    · by_cases he : (set[k].toNat : Int) = c
      · have he' : ((set[k].toNat : Int) == c) = true := beq_iff_eq.2 he
        have HE := hid he
        clear he
        go_wp2
        exact hR.out _ _ ⟨k, rfl, rfl, ⟨fun _ => ⟨k, hlt, HE.out⟩, fun _ => by omega⟩⟩
      · have he' : ((set[k].toNat : Int) == c) = false := beq_eq_false_iff_ne.2 he
        have HE := hid he
        clear he
        go_wp2
        go_roundg (set.size - (k + 1))
        case measure => omega
        case rel => exact ⟨k + 1, by omega, by go_num, rfl, rfl, fun j hj h => by
          by_cases e : j = k
          · subst e; exact HE.out
          · exact HO.out j (by omega) h⟩
    · go_wp2
      exact hR.out _ _ ⟨-1, rfl, rfl, ⟨fun h => by omega, fun ⟨j, h, e⟩ => absurd e (HO.out j (by omega) h)⟩⟩

/-- The capital letters. -/
abbrev alphabet : ByteArray := { data := #[65, 66, 67, 68, 69, 70, 71, 72, 73, 74, 75, 76, 77, 78, 79, 80, 81, 82, 83, 84, 85, 86, 87, 88, 89, 90] }

theorem alphabet_get : ∀ j, ∀ h : j < alphabet.size, alphabet[j].toNat = 65 + j := by
  intro j h
  have h' : j < 26 := h
  rcases (show j = 0 ∨ j = 1 ∨ j = 2 ∨ j = 3 ∨ j = 4 ∨ j = 5 ∨ j = 6 ∨ j = 7 ∨ j = 8 ∨ j = 9 ∨ j = 10 ∨ j = 11 ∨ j = 12 ∨ j = 13 ∨ j = 14 ∨ j = 15 ∨ j = 16 ∨ j = 17 ∨ j = 18 ∨ j = 19 ∨ j = 20 ∨ j = 21 ∨ j = 22 ∨ j = 23 ∨ j = 24 ∨ j = 25 by omega) with rfl | rfl | rfl | rfl | rfl | rfl | rfl | rfl | rfl | rfl | rfl | rfl | rfl | rfl | rfl | rfl | rfl | rfl | rfl | rfl | rfl | rfl | rfl | rfl | rfl | rfl <;> rfl

theorem in_alphabet (c : Nat) : (∃ j, ∃ h : j < alphabet.size, (alphabet[j].toNat : Int) = (c : Int)) ↔ isUp c := by
  constructor
  · rintro ⟨j, h, e⟩
    have h' : j < 26 := h
    rw [alphabet_get j h] at e
    exact ⟨by omega, by omega⟩
  · rintro ⟨h1, h2⟩
    have h : c - 65 < alphabet.size := by show c - 65 < 26; omega
    exact ⟨c - 65, h, by rw [alphabet_get _ h]; omega⟩

set_option maxHeartbeats 1000000 in
theorem curModel_any (s : ByteArray) (hs : s.size ≤ 1048576) (w : World) :
    Calls Try.prog 19 #[.string s] w fun e w' => ∃ r, e = .returned (.bool r) ∧ w' = w ∧ (r = true ↔ CurOk s) := by
  refine hideR fun R' hR => ?_
  go_enter Try.func19, Try.ntmps19
  go_wp2
  go_loopg [3, 4] s.size (fun g l i wr => ∃ k m : Nat, k ≤ s.size ∧ i = .int .i64 k ∧ l = .int .i64 m ∧ g = s.size - k ∧ w = wr ∧ m ≤ k ∧ (m = k ↔ ∀ j (_ : j < k) (h : j < s.size), isUp s[j].toNat))
  case atStart => exact ⟨0, 0, Nat.zero_le _, rfl, rfl, rfl, rfl, Nat.le_refl _, ⟨fun _ j h => absurd h (Nat.not_lt_zero j), fun _ => rfl⟩⟩
  case round =>
    obtain ⟨k, m, hk, rfl, rfl, rfl, rfl, hm, hiff⟩ := hrel
    have HO := hid hiff
    clear hiff
    by_cases hlt : k < s.size
    · go_wp2_with fail
      refine (indexIn_any _ _ (by decide) w).mono ?_
      rintro e w1 ⟨v, rfl, hw, hv⟩
      rw [hw]
      have HV : Hid (0 ≤ v ↔ isUp s[k].toNat) := hv.trans (in_alphabet _)
      clear hw hv
      by_cases h0 : 0 ≤ v
      · go_wp2
        go_roundg (s.size - (k + 1))
        case measure => omega
        case rel => exact ⟨k + 1, m + 1, by omega, by go_num, by go_num, rfl, rfl, by omega, ⟨fun e => up_step (HO.out.1 (by omega)) hlt (HV.out.1 h0), fun q => by have := HO.out.2 (fun j hj h => q j (by omega) h); omega⟩⟩
      · have h0' : v < 0 := by omega
        go_wp2
        go_roundg (s.size - (k + 1))
        case measure => omega
        case rel => exact ⟨k + 1, m, by omega, by go_num, rfl, rfl, rfl, by omega, ⟨fun e => by omega, fun q => absurd (HV.out.2 (q k (by omega) hlt)) (by omega)⟩⟩
    · obtain rfl : k = s.size := by omega
      by_cases h3 : s.size = 3
      · have h3' : ((s.size : Int) == 3) = true := beq_iff_eq.2 (by omega)
        by_cases hm3 : m = 3
        · have hm' : ((m : Int) == 3) = true := beq_iff_eq.2 (by omega)
          have HC : Hid (CurOk s) := ⟨h3, fun i h => HO.out.1 (by omega) i h h⟩
          have H3 := hid h3
          have HM := hid hm3
          clear h3 hm3
          go_wp2
          exact hR.out _ _ ⟨true, rfl, rfl, by simp [HC.out]⟩
        · have hm' : ((m : Int) == 3) = false := beq_eq_false_iff_ne.2 (by omega)
          have HC : Hid (¬ CurOk s) := fun q => hm3 (by have := HO.out.2 (fun j _ h => q.2 j h); omega)
          have H3 := hid h3
          have HM := hid hm3
          clear h3 hm3
          go_wp2
          exact hR.out _ _ ⟨false, rfl, rfl, by simp [HC.out]⟩
      · have h3' : ((s.size : Int) == 3) = false := beq_eq_false_iff_ne.2 (by omega)
        have HC : Hid (¬ CurOk s) := fun q => h3 q.1
        have H3 := hid h3
        clear h3
        go_wp2
        exact hR.out _ _ ⟨false, rfl, rfl, by simp [HC.out]⟩
end Go.Proofs.Qxb6600663a
