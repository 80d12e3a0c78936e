/-
  THE WALK OF THE LAW FnCurrencyAcceptsEveryCode (7).
-/
import Derived.Test.Qxb6600663aLow
namespace Go.Proofs.Qxb6600663a
open Go.RowKit

theorem idx_up (v : Int) (h0 : 0 ≤ v) (h1 : v < 26) : ∃ m : Nat, isUp m ∧ ∀ W : World, (Instr.index 9 (.string { data := #[65, 66, 67, 68, 69, 70, 71, 72, 73, 74, 75, 76, 77, 78, 79, 80, 81, 82, 83, 84, 85, 86, 87, 88, 89, 90] }) (.int .i64 v)).run Try.prog W = .ok (.int .u8 (m : Int)) W := by
  rcases (show v = 0 ∨ v = 1 ∨ v = 2 ∨ v = 3 ∨ v = 4 ∨ v = 5 ∨ v = 6 ∨ v = 7 ∨ v = 8 ∨ v = 9 ∨ v = 10 ∨ v = 11 ∨ v = 12 ∨ v = 13 ∨ v = 14 ∨ v = 15 ∨ v = 16 ∨ v = 17 ∨ v = 18 ∨ v = 19 ∨ v = 20 ∨ v = 21 ∨ v = 22 ∨ v = 23 ∨ v = 24 ∨ v = 25 by omega) with rfl | rfl | rfl | rfl | rfl | rfl | rfl | rfl | rfl | rfl | rfl | rfl | rfl | rfl | rfl | rfl | rfl | rfl | rfl | rfl | rfl | rfl | rfl | rfl | rfl | rfl
  · exact ⟨65, by unfold isUp; omega, fun _ => by kernel_rfl⟩
  · exact ⟨66, by unfold isUp; omega, fun _ => by kernel_rfl⟩
  · exact ⟨67, by unfold isUp; omega, fun _ => by kernel_rfl⟩
  · exact ⟨68, by unfold isUp; omega, fun _ => by kernel_rfl⟩
  · exact ⟨69, by unfold isUp; omega, fun _ => by kernel_rfl⟩
  · exact ⟨70, by unfold isUp; omega, fun _ => by kernel_rfl⟩
  · exact ⟨71, by unfold isUp; omega, fun _ => by kernel_rfl⟩
  · exact ⟨72, by unfold isUp; omega, fun _ => by kernel_rfl⟩
  · exact ⟨73, by unfold isUp; omega, fun _ => by kernel_rfl⟩
  · exact ⟨74, by unfold isUp; omega, fun _ => by kernel_rfl⟩
  · exact ⟨75, by unfold isUp; omega, fun _ => by kernel_rfl⟩
  · exact ⟨76, by unfold isUp; omega, fun _ => by kernel_rfl⟩
  · exact ⟨77, by unfold isUp; omega, fun _ => by kernel_rfl⟩
  · exact ⟨78, by unfold isUp; omega, fun _ => by kernel_rfl⟩
  · exact ⟨79, by unfold isUp; omega, fun _ => by kernel_rfl⟩
  · exact ⟨80, by unfold isUp; omega, fun _ => by kernel_rfl⟩
  · exact ⟨81, by unfold isUp; omega, fun _ => by kernel_rfl⟩
  · exact ⟨82, by unfold isUp; omega, fun _ => by kernel_rfl⟩
  · exact ⟨83, by unfold isUp; omega, fun _ => by kernel_rfl⟩
  · exact ⟨84, by unfold isUp; omega, fun _ => by kernel_rfl⟩
  · exact ⟨85, by unfold isUp; omega, fun _ => by kernel_rfl⟩
  · exact ⟨86, by unfold isUp; omega, fun _ => by kernel_rfl⟩
  · exact ⟨87, by unfold isUp; omega, fun _ => by kernel_rfl⟩
  · exact ⟨88, by unfold isUp; omega, fun _ => by kernel_rfl⟩
  · exact ⟨89, by unfold isUp; omega, fun _ => by kernel_rfl⟩
  · exact ⟨90, by unfold isUp; omega, fun _ => by kernel_rfl⟩

theorem wrap_mod {a : Int} (h0 : 0 ≤ a) (h1 : a ≤ 255) : 0 ≤ (IntKind.i64.wrap a).tmod 26 ∧ (IntKind.i64.wrap a).tmod 26 < 26 := by
  have e : IntKind.i64.wrap a = a := by rw [IntKind.wrap_i64]; omega
  rw [e, Int.tmod_eq_emod_of_nonneg h0]
  omega

theorem three_up {m0 m1 m2 : Nat} (h0 : isUp m0) (h1 : isUp m1) (h2 : isUp m2) : CurOk ⟨[UInt8.ofNat m0, UInt8.ofNat m1, UInt8.ofNat m2].toArray⟩ := by
  refine ⟨rfl, fun i hi => ?_⟩
  have hi' : i < 3 := hi
  unfold isUp at *
  rcases (show i = 0 ∨ i = 1 ∨ i = 2 by omega) with rfl | rfl | rfl
  · show 65 ≤ (UInt8.ofNat m0).toNat ∧ (UInt8.ofNat m0).toNat ≤ 90
    simp; omega
  · show 65 ≤ (UInt8.ofNat m1).toNat ∧ (UInt8.ofNat m1).toNat ≤ 90
    simp; omega
  · show 65 ≤ (UInt8.ofNat m2).toNat ∧ (UInt8.ofNat m2).toNat ≤ 90
    simp; omega

theorem lt_of_up {m : Nat} (h : isUp m) : m < 256 := by unfold isUp at h; omega

theorem three_cells {w : World} {m0 m1 m2 : Nat} (h0 : m0 < 256) (h1 : m1 < 256) (h2 : m2 < 256) :
    ∀ j (hj : j < [UInt8.ofNat m0, UInt8.ofNat m1, UInt8.ofNat m2].length), (w.alloc (Obj.cells #[Value.int IntKind.u8 (m0 : Int), Value.int IntKind.u8 (m1 : Int), Value.int IntKind.u8 (m2 : Int)] 5)).drew.cell? ((⟨w.heap.size, 0, none⟩ : Addr).add j) = some (.int .u8 (([UInt8.ofNat m0, UInt8.ofNat m1, UInt8.ofNat m2][j]).toNat : Int)) := by
  intro j hj
  have hj' : j < 3 := hj
  show (w.alloc _).cell? _ = _
  rw [Addr.add_mid, Nat.zero_add, World.cell?_alloc_at _ _ _ _ rfl]
  rcases (show j = 0 ∨ j = 1 ∨ j = 2 by omega) with rfl | rfl | rfl
  · simp; omega
  · simp; omega
  · simp; omega

theorem lift_up {n : Nat} (h1 : 65 ≤ n) (h2 : n ≤ 90) : ((UInt8.ofNat (n + 32)).toNat : Int) = (n : Int) + 32 := by
  simp
  omega

theorem set_cells {w : World} {g : Nat} {s : ByteArray} (h : ∀ j (h : j < s.size), w.cell? ⟨g, j, none⟩ = some (.int .u8 (s[j].toNat : Int))) (p : Nat) (c : UInt8) (hp : p < s.size) :
    ∀ j (hj : j < (s.data.toList.set p c).length), (w.setCell ⟨g, p, none⟩ (.int .u8 (c.toNat : Int))).cell? ((⟨g, 0, none⟩ : Addr).add j) = some (.int .u8 (((s.data.toList.set p c)[j]).toNat : Int)) := by
  intro j hj
  have hj' : j < s.size := by simpa using hj
  rw [Addr.add_mid, Nat.zero_add]
  by_cases e : p = j
  · subst e
    rw [World.cell?_setCell_same _ _ _ (h p hp)]
    simp
  · rw [World.cell?_setCell_other _ _ _ _ (by intro q; exact e (by cases q; rfl)), h j hj']
    simp [e]
    rfl

theorem cur_set_not {s : ByteArray} {p : Nat} {c : UInt8} (hp : p < s.size) (hn : ¬ isUp c.toNat) : ¬ CurOk ⟨(s.data.toList.set p c).toArray⟩ := by
  intro q
  have hlt : p < (⟨(s.data.toList.set p c).toArray⟩ : ByteArray).size := by
    show p < (s.data.toList.set p c).toArray.size
    rw [List.size_toArray, List.length_set]
    simpa using hp
  have := q.2 p hlt
  apply hn
  have e : (⟨(s.data.toList.set p c).toArray⟩ : ByteArray)[p] = c := by
    show (s.data.toList.set p c).toArray[p] = c
    simp
  rwa [e] at this

set_option maxRecDepth 100000 in
set_option maxHeartbeats 2000000 in
theorem code_walk (a b c : Int) (ha : 0 ≤ a ∧ a ≤ 255) (hb : 0 ≤ b ∧ b ≤ 255) (hc : 0 ≤ c ∧ c ≤ 255) (w : World) :
    Calls Try.prog 7 #[.int .u8 a, .int .u8 b, .int .u8 c] w fun e w' => e = .returned (.bool true) ∧ Below w.heap.size w w' := by
  refine hideR fun R' hR => ?_
  obtain ⟨ha0, ha1⟩ := ha
  obtain ⟨hb0, hb1⟩ := hb
  obtain ⟨hc0, hc1⟩ := hc
  obtain ⟨m0, u0, i0⟩ := idx_up ((IntKind.i64.wrap a).tmod 26) (wrap_mod ha0 ha1).1 (wrap_mod ha0 ha1).2
  obtain ⟨m1, u1, i1⟩ := idx_up ((IntKind.i64.wrap b).tmod 26) (wrap_mod hb0 hb1).1 (wrap_mod hb0 hb1).2
  obtain ⟨m2, u2, i2⟩ := idx_up ((IntKind.i64.wrap c).tmod 26) (wrap_mod hc0 hc1).1 (wrap_mod hc0 hc1).2
  have HO := hid (three_up u0 u1 u2)
  have U0 := hid u0
  have U1 := hid u1
  have U2 := hid u2
  clear u0 u1 u2
  go_enter Try.func7, Try.ntmps7
  go_wp2
  go_still_tail 12, Try.mixed
  clear i0 i1 i2
  go_wp2_with (refine conv_str (.tmp 22) ?_)
  refine ⟨⟨w.heap.size, 0, none⟩, 3, 3, [UInt8.ofNat m0, UInt8.ofNat m1, UInt8.ofNat m2], rfl, rfl, ?_, ?_⟩
  · exact three_cells (lt_of_up U0.out) (lt_of_up U1.out) (lt_of_up U2.out)
  have HB1 : Hid (Below w.heap.size w (w.alloc (Obj.cells #[Value.int IntKind.u8 ↑m0, Value.int IntKind.u8 ↑m1, Value.int IntKind.u8 ↑m2] 5)).drew) := ((Below.refl _ _).alloc (Nat.le_refl _) _).drew
  generalize (⟨[UInt8.ofNat m0, UInt8.ofNat m1, UInt8.ofNat m2].toArray⟩ : ByteArray) = s at *
  go_wp2_with fail
  generalize (w.alloc (Obj.cells #[Value.int IntKind.u8 ↑m0, Value.int IntKind.u8 ↑m1, Value.int IntKind.u8 ↑m2] 5)).drew = W1 at *
  refine (zzcurrency_any s W1).mono ?_
  rintro e w2 ⟨r, rfl, hw2, hr⟩
  rw [hw2]
  obtain rfl : r = true := hr.2 HO.out
  clear hw2 hr
  go_wp2_with fail
  refine (asciiLow_any s (by rw [HO.out.1]; omega) HO.out.2 W1).mono ?_
  rintro e w2 ⟨rfl, hb2⟩
  have HB2 := hid hb2
  clear hb2
  have HN := hid (lowered_not s HO.out)
  generalize (⟨(lowered s).toArray⟩ : ByteArray) = s2 at *
  go_wp2_with fail
  refine (zzcurrency_any s2 w2).mono ?_
  rintro e w3 ⟨r, rfl, hw3, hr⟩
  rw [hw3]
  obtain rfl : r = false := by cases r with | false => rfl | true => exact absurd (hr.1 rfl) HN.out
  clear hw3 hr
  have HB := hid (HB1.out.trans (HB2.out.mono HB1.out.size))
  clear HB1 HB2 HN
  go_wp2
  go_loopg [8] 3 (fun g i wq => ∃ k : Nat, k ≤ 3 ∧ i = .int .i64 k ∧ g = 3 - k ∧ Below w2.heap.size w2 wq)
  case atStart => exact ⟨0, by omega, rfl, rfl, Below.refl _ _⟩
  case round =>
    obtain ⟨k, hk3, rfl, rfl, hb⟩ := hrel
    have HBW := hid hb
    clear hb
    by_cases hlt3 : k < 3
    · go_wp2_with (refine conv_bytes (.tmp 34) ?_)
      refine ⟨s, rfl, ?_⟩
      intro w3 cap3 hb3 hsz3 hc3 hf3
      have HB3 := hid hb3
      have HC3 := hid hc3
      clear hb3 hc3
      have hks : k < s.size := by rw [HO.out.1]; omega
      have hfp := hf3 k hks
      have hcp := HC3.out k hks
      have hup := HO.out.2 k hks
      unfold isUp at hup
      obtain ⟨p1, p2⟩ := hup
      have HV := hid (lift_up p1 p2)
      clear hf3
      go_wp2_with (refine conv_str (.tmp 44) ?_)
      refine ⟨⟨wr.heap.size, 0, none⟩, s.size, cap3, s.data.toList.set k (UInt8.ofNat (s[k].toNat + 32)), rfl, by simp, by rw [← HV.out]; exact set_cells HC3.out k _ hks, ?_⟩
      have HN := hid (cur_set_not (s := s) (c := UInt8.ofNat (s[k].toNat + 32)) hks (by unfold isUp; simp; omega))
      generalize (⟨(s.data.toList.set k (UInt8.ofNat (s[k].toNat + 32))).toArray⟩ : ByteArray) = s3 at *
      go_wp2_with fail
      refine (zzcurrency_any s3 _).mono ?_
      rintro e w5 ⟨r, rfl, hw5, hr⟩
      obtain rfl : r = false := by cases r with | false => rfl | true => exact absurd (hr.1 rfl) HN.out
      have HB5 : Hid (Below wr.heap.size wr w5) := by rw [hw5]; exact HB3.out.setCell (Nat.le_refl _) _
      clear hw5 hr hcp hfp hsz3
      go_wp2
      go_roundg (3 - (k + 1))
      case measure => omega
      case rel => exact ⟨k + 1, by omega, by go_num, rfl, HBW.out.trans (HB5.out.mono HBW.out.size)⟩
    · have hs3 : 3 ≤ s.size := by rw [HO.out.1]; omega
      have hs3' : s.size ≤ 3 := by rw [HO.out.1]; omega
      go_wp2_with fail
      refine (zzcurrency_any _ _).mono ?_
      rintro e w5 ⟨r, rfl, hw5, hr⟩
      rw [hw5]
      obtain rfl : r = false := by cases r with | false => rfl | true => exact absurd (hr.1 rfl) (fun q => by have := q.1; simp at this; omega)
      clear hw5 hr
      go_wp2_with fail
      refine (zzcurrency_any _ _).mono ?_
      rintro e w5 ⟨r, rfl, hw5, hr⟩
      rw [hw5]
      obtain rfl : r = false := by cases r with | false => rfl | true => exact absurd (hr.1 rfl) (fun q => by have := q.1; rw [ByteArray.size_append] at this; simp at this; omega)
      clear hw5 hr
      go_wp2
      exact hR.out _ _ ⟨rfl, HB.out.trans (HBW.out.mono HB.out.size)⟩
end Go.Proofs.Qxb6600663a
