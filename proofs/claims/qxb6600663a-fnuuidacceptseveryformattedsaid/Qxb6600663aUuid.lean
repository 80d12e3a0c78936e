/-
  THE WALK OF UUID (11).
-/
import Derived.Test.Qxb6600663aBase
namespace Go.Proofs.Qxb6600663a
open Go.RowKit

def isHex (c : Nat) : Prop := (48 ≤ c ∧ c ≤ 57) ∨ (97 ≤ c ∧ c ≤ 102) ∨ (65 ≤ c ∧ c ≤ 70)
def hyph (i : Nat) : Prop := i = 8 ∨ i = 13 ∨ i = 18 ∨ i = 23
/-- What place i of a UUID's text may hold. -/
def OkAt (i c : Nat) : Prop := (hyph i → c = 45) ∧ (¬ hyph i → isHex c)
/-- A UUID's text. -/
def UuidOk (s : ByteArray) : Prop := s.size = 36 ∧ ∀ i (h : i < s.size), OkAt i s[i].toNat

theorem ok_step {s : ByteArray} {k : Nat} (hlt : k < s.size) (hold : ∀ j (_ : j < k) (h : j < s.size), OkAt j s[j].toNat) (h : OkAt k s[k].toNat) : ∀ j (_ : j < k + 1) (h : j < s.size), OkAt j s[j].toNat := by
  intro j hj hjs
  by_cases e : j = k
  · subst e; exact h
  · exact hold j (by omega) hjs
theorem not_ok {s : ByteArray} {k : Nat} (hlt : k < s.size) (h : ¬ OkAt k s[k].toNat) : ¬ UuidOk s := fun q => h (q.2 k hlt)
theorem ok_hex {k c : Nat} (hy : ¬ hyph k) (h : isHex c) : OkAt k c := ⟨fun q => absurd q hy, fun _ => h⟩
theorem not_hex {k c : Nat} (hy : ¬ hyph k) (h : ¬ isHex c) : ¬ OkAt k c := fun q => h (q.2 hy)
theorem ok_dash {k c : Nat} (hy : hyph k) (h : c = 45) : OkAt k c := ⟨fun _ => h, fun q => absurd hy q⟩
theorem not_dash {k c : Nat} (hy : hyph k) (h : c ≠ 45) : ¬ OkAt k c := fun q => h (q.1 hy)

theorem hexSplit (c : Nat) : (c < 48 ∨ (58 ≤ c ∧ c ≤ 64) ∨ (71 ≤ c ∧ c ≤ 96) ∨ 103 ≤ c) ∨ ((48 ≤ c ∧ c ≤ 57) ∨ (65 ≤ c ∧ c ≤ 70) ∨ (97 ≤ c ∧ c ≤ 102)) := by omega

set_option maxHeartbeats 1000000 in
theorem uuid_any (s : ByteArray) (w : World) :
    Calls Try.prog 11 #[.string s] w fun e w' => ∃ r, e = .returned (.bool r) ∧ w' = w ∧ (r = true ↔ UuidOk s) := by
  refine hideR fun R' hR => ?_
  by_cases hsz : s.size = 36
  · have hsz' : ((s.size : Int) != 36) = false := by simp [hsz]
    have hs1 : s.size ≤ 36 := by omega
    have HZ := hid hsz
    clear hsz
    go_enter Try.func11, Try.ntmps11
    go_wp2
    go_loopg [3] s.size (fun g i wr => ∃ k : Nat, k ≤ s.size ∧ i = .int .i64 k ∧ g = s.size - k ∧ w = wr ∧ ∀ j (_ : j < k) (h : j < s.size), OkAt j s[j].toNat)
    case atStart => exact ⟨0, Nat.zero_le _, rfl, rfl, rfl, fun j h => absurd h (Nat.not_lt_zero j)⟩
    case round =>
      obtain ⟨k, hk, rfl, rfl, rfl, hold⟩ := hrel
      by_cases hlt : k < s.size
      · have HO := hid (ok_step hlt hold)
        have HX := hid (not_ok (k := k) hlt)
        clear hold
        by_cases hy : hyph k
        · have HY := hid hy
          by_cases hc : s[k].toNat = 45
          · have hc' : ((s[k].toNat : Int) != 45) = false := by simp [hc]
            have HC := hid hc
            clear hc
            rcases hy with rfl | rfl | rfl | rfl
            · go_wp2
              go_roundg (s.size - (8 + 1))
              case measure => omega
              case rel => exact ⟨8 + 1, by omega, rfl, rfl, rfl, HO.out (ok_dash HY.out HC.out)⟩
            · go_wp2
              go_roundg (s.size - (13 + 1))
              case measure => omega
              case rel => exact ⟨13 + 1, by omega, rfl, rfl, rfl, HO.out (ok_dash HY.out HC.out)⟩
            · go_wp2
              go_roundg (s.size - (18 + 1))
              case measure => omega
              case rel => exact ⟨18 + 1, by omega, rfl, rfl, rfl, HO.out (ok_dash HY.out HC.out)⟩
            · go_wp2
              go_roundg (s.size - (23 + 1))
              case measure => omega
              case rel => exact ⟨23 + 1, by omega, rfl, rfl, rfl, HO.out (ok_dash HY.out HC.out)⟩
          · have hc' : ((s[k].toNat : Int) != 45) = true := by simp; omega
            have HC := hid hc
            clear hc
            rcases hy with rfl | rfl | rfl | rfl
            all_goals
              go_wp2
              exact hR.out _ _ ⟨false, rfl, rfl, by simp [HX.out (not_dash HY.out HC.out)]⟩
        · have y1 : ((k : Int) == 8) = false := beq_eq_false_iff_ne.2 (by unfold hyph at hy; omega)
          have y2 : ((k : Int) == 13) = false := beq_eq_false_iff_ne.2 (by unfold hyph at hy; omega)
          have y3 : ((k : Int) == 18) = false := beq_eq_false_iff_ne.2 (by unfold hyph at hy; omega)
          have y4 : ((k : Int) == 23) = false := beq_eq_false_iff_ne.2 (by unfold hyph at hy; omega)
          have HY := hid hy
          clear hy
          rcases hexSplit s[k].toNat with (h | ⟨h, h'⟩ | ⟨h, h'⟩ | h) | (⟨h, h'⟩ | ⟨h, h'⟩ | ⟨h, h'⟩)
          · have HN : Hid (¬ isHex s[k].toNat) := by unfold Hid isHex; omega
            have d0 : decide ((48 : Int) ≤ (s[k].toNat : Int)) = false := by simp; omega
            have d1 : decide ((s[k].toNat : Int) ≤ 57) = true := by simp; omega
            have d2 : decide ((97 : Int) ≤ (s[k].toNat : Int)) = false := by simp; omega
            have d3 : decide ((s[k].toNat : Int) ≤ 102) = true := by simp; omega
            have d4 : decide ((65 : Int) ≤ (s[k].toNat : Int)) = false := by simp; omega
            have d5 : decide ((s[k].toNat : Int) ≤ 70) = true := by simp; omega
            go_wp2
            exact hR.out _ _ ⟨false, rfl, rfl, by simp [HX.out (not_hex HY.out HN.out)]⟩
          · have HN : Hid (¬ isHex s[k].toNat) := by unfold Hid isHex; omega
            have d0 : decide ((48 : Int) ≤ (s[k].toNat : Int)) = true := by simp; omega
            have d1 : decide ((s[k].toNat : Int) ≤ 57) = false := by simp; omega
            have d2 : decide ((97 : Int) ≤ (s[k].toNat : Int)) = false := by simp; omega
            have d3 : decide ((s[k].toNat : Int) ≤ 102) = true := by simp; omega
            have d4 : decide ((65 : Int) ≤ (s[k].toNat : Int)) = false := by simp; omega
            have d5 : decide ((s[k].toNat : Int) ≤ 70) = true := by simp; omega
            go_wp2
            exact hR.out _ _ ⟨false, rfl, rfl, by simp [HX.out (not_hex HY.out HN.out)]⟩
          · have HN : Hid (¬ isHex s[k].toNat) := by unfold Hid isHex; omega
            have d0 : decide ((48 : Int) ≤ (s[k].toNat : Int)) = true := by simp; omega
            have d1 : decide ((s[k].toNat : Int) ≤ 57) = false := by simp; omega
            have d2 : decide ((97 : Int) ≤ (s[k].toNat : Int)) = false := by simp; omega
            have d3 : decide ((s[k].toNat : Int) ≤ 102) = true := by simp; omega
            have d4 : decide ((65 : Int) ≤ (s[k].toNat : Int)) = true := by simp; omega
            have d5 : decide ((s[k].toNat : Int) ≤ 70) = false := by simp; omega
            go_wp2
            exact hR.out _ _ ⟨false, rfl, rfl, by simp [HX.out (not_hex HY.out HN.out)]⟩
          · have HN : Hid (¬ isHex s[k].toNat) := by unfold Hid isHex; omega
            have d0 : decide ((48 : Int) ≤ (s[k].toNat : Int)) = true := by simp; omega
            have d1 : decide ((s[k].toNat : Int) ≤ 57) = false := by simp; omega
            have d2 : decide ((97 : Int) ≤ (s[k].toNat : Int)) = true := by simp; omega
            have d3 : decide ((s[k].toNat : Int) ≤ 102) = false := by simp; omega
            have d4 : decide ((65 : Int) ≤ (s[k].toNat : Int)) = true := by simp; omega
            have d5 : decide ((s[k].toNat : Int) ≤ 70) = false := by simp; omega
            go_wp2
            exact hR.out _ _ ⟨false, rfl, rfl, by simp [HX.out (not_hex HY.out HN.out)]⟩
          · have HN : Hid (isHex s[k].toNat) := by unfold Hid isHex; omega
            have d0 : decide ((48 : Int) ≤ (s[k].toNat : Int)) = true := by simp; omega
            have d1 : decide ((s[k].toNat : Int) ≤ 57) = true := by simp; omega
            have d2 : decide ((97 : Int) ≤ (s[k].toNat : Int)) = false := by simp; omega
            have d3 : decide ((s[k].toNat : Int) ≤ 102) = true := by simp; omega
            have d4 : decide ((65 : Int) ≤ (s[k].toNat : Int)) = false := by simp; omega
            have d5 : decide ((s[k].toNat : Int) ≤ 70) = true := by simp; omega
            go_wp2
            go_roundg (s.size - (k + 1))
            case measure => omega
            case rel => exact ⟨k + 1, by omega, by go_num, rfl, rfl, HO.out (ok_hex HY.out HN.out)⟩
          · have HN : Hid (isHex s[k].toNat) := by unfold Hid isHex; omega
            have d0 : decide ((48 : Int) ≤ (s[k].toNat : Int)) = true := by simp; omega
            have d1 : decide ((s[k].toNat : Int) ≤ 57) = false := by simp; omega
            have d2 : decide ((97 : Int) ≤ (s[k].toNat : Int)) = false := by simp; omega
            have d3 : decide ((s[k].toNat : Int) ≤ 102) = true := by simp; omega
            have d4 : decide ((65 : Int) ≤ (s[k].toNat : Int)) = true := by simp; omega
            have d5 : decide ((s[k].toNat : Int) ≤ 70) = true := by simp; omega
            go_wp2
            go_roundg (s.size - (k + 1))
            case measure => omega
            case rel => exact ⟨k + 1, by omega, by go_num, rfl, rfl, HO.out (ok_hex HY.out HN.out)⟩
          · have HN : Hid (isHex s[k].toNat) := by unfold Hid isHex; omega
            have d0 : decide ((48 : Int) ≤ (s[k].toNat : Int)) = true := by simp; omega
            have d1 : decide ((s[k].toNat : Int) ≤ 57) = false := by simp; omega
            have d2 : decide ((97 : Int) ≤ (s[k].toNat : Int)) = true := by simp; omega
            have d3 : decide ((s[k].toNat : Int) ≤ 102) = true := by simp; omega
            have d4 : decide ((65 : Int) ≤ (s[k].toNat : Int)) = true := by simp; omega
            have d5 : decide ((s[k].toNat : Int) ≤ 70) = false := by simp; omega
            go_wp2
            go_roundg (s.size - (k + 1))
            case measure => omega
            case rel => exact ⟨k + 1, by omega, by go_num, rfl, rfl, HO.out (ok_hex HY.out HN.out)⟩
      · have HU : Hid (UuidOk s) := ⟨HZ.out, fun j h => hold j (by omega) h⟩
        clear hold
        go_wp2
        exact hR.out _ _ ⟨true, rfl, rfl, by simp [HU.out]⟩
  · have hsz' : ((s.size : Int) != 36) = true := by simp; omega
    go_enter Try.func11, Try.ntmps11
    go_wp2
    exact hR.out _ _ ⟨false, rfl, rfl, by simp [UuidOk, hsz]⟩
end Go.Proofs.Qxb6600663a
