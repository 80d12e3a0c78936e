/-
  THE WALK OF THE LAW FnProcessesRecoverClearsLife (5).
-/
import Derived.Test.Qxb6600401aRecParts
namespace Go.Proofs.Qxb6600401a
open Go.RowKit

theorem all_app {es : List Ev} {x : Ev} {Q : Ev → Prop} (h : ∀ i (hi : i < es.length), Q es[i]) (hx : Q x) : ∀ i (hi : i < (es ++ [x]).length), Q (es ++ [x])[i] := fun i hi => by
  by_cases c : i < es.length
  · rw [List.getElem_append_left c]; exact h i c
  · obtain rfl : i = es.length := by simp at hi; omega
    rw [List.getElem_append_right (Nat.le_refl _)]
    simpa using hx

set_option maxRecDepth 100000 in
set_option maxHeartbeats 4000000 in
theorem rec_walk (n kk : Int) (hn64 : -9223372036854775808 ≤ n ∧ n ≤ 9223372036854775807) (hk64 : -9223372036854775808 ≤ kk ∧ kk ≤ 9223372036854775807) (ao : Option Addr) (es : List Ev) (cap : Nat) (w : World) (hnil : ao = none → es = []) (hl : es.length ≤ maxLen)
    (hev : EvsAt w (fun _ => True) ao es) :
    Calls Try.prog 5 #[.int .i64 n, .slice ao es.length cap, .int .i64 kk] w fun e w' => e = .returned (.bool true) ∧ Below w.heap.size w w' := by
  refine hideR fun R' hR => ?_
  have HB := hid (bytes16 n kk ao _ es cap w hev)
  have HT := hid (tooBig_any ao _ es cap w hev)
  have HE := hid hev
  have HL := hid hl
  have HN := hid hnil
  clear hev hl hnil
  go_enter Try.func5, Try.ntmps5
  go_wp2_with fail
  refine HB.out.mono ?_
  rintro e w1 ⟨r, rfl, rfl⟩
  clear HB
  cases r with
  | false =>
    go_wp2
    exact hR.out _ _ ⟨rfl, Below.refl _ _⟩
  | true =>
  go_wp2_with fail
  refine HT.out.mono ?_
  rintro e w2 ⟨r, rfl, ⟨q, rfl⟩, hbig⟩
  clear HT
  cases r with
  | true =>
    go_wp2
    exact hR.out _ _ ⟨rfl, Below.of_drewN _⟩
  | false =>
  obtain ⟨hl1, hm⟩ := hbig rfl
  clear hbig
  have HM := hid hm
  clear hm
  by_cases hn0 : n < 0
  · go_wp2
    exact hR.out _ _ ⟨rfl, Below.of_drewN _⟩
  by_cases hn1 : 65536 < n
  · go_wp2
    exact hR.out _ _ ⟨rfl, Below.of_drewN _⟩
  obtain ⟨N, rfl⟩ : ∃ N : Nat, n = (N : Int) := ⟨n.toNat, by omega⟩
  clear hn64
  have hN : N ≤ 65536 := by omega
  clear hn0 hn1
  by_cases hk0 : kk < 1
  · go_wp2
    exact hR.out _ _ ⟨rfl, Below.of_drewN _⟩
  by_cases hk1 : (N : Int) < kk
  · go_wp2
    exact hR.out _ _ ⟨rfl, Below.of_drewN _⟩
  obtain ⟨K, rfl⟩ : ∃ K : Nat, kk = (K : Int) := ⟨kk.toNat, by omega⟩
  clear hk64
  have hK1 : 1 ≤ K := by omega
  have hKN : K ≤ N := by omega
  clear hk0 hk1
  go_wp2_with fail
  refine (procs_any (N : Int) ao _ es cap (w1.drewN q) HL.out (HE.out.below (Below.of_drewN _))).mono ?_
  rintro e w2 ⟨r, rfl, rfl, hr⟩
  cases r with
  | false =>
    go_wp2
    exact hR.out _ _ ⟨rfl, Below.of_drewN _⟩
  | true =>
  have HR := hid (hr rfl)
  clear hr
  go_wp2_with fail
  refine (copy_any ao _ es cap (w1.drewN q) HN.out hl1 HM.out (HE.out.below (Below.of_drewN _))).mono ?_
  rintro e w3 ⟨ao', rfl, hn', hev', hbel⟩
  have HB3 : Hid (Below w1.heap.size w1 w3) := (Below.of_drewN q).trans hbel
  have HE3 := hid hev'
  have HN3 := hid hn'
  clear hev' hbel HE HN HL hn'
  go_wp2_with fail
  refine (toRec_any ao' _ es es.length w3 (by omega) HM.out HE3.out).mono ?_
  rintro e w5 ⟨rfl, hb5, hr5⟩
  have HB5 := hid hb5
  have HR5 := hid hr5
  clear hb5 hr5
  go_wp2_with fail
  refine (zzprocs_any N w3.heap.size es es.length w5 hN (by omega) HR.out HR5.out).mono ?_
  rintro e w6 ⟨Ba, rfl, hb6, hp6⟩
  have HB6 := hid hb6
  have HP6 := hid hp6
  clear hb6 hp6 HR5
  have HB36 : Hid (Below w3.heap.size w3 w6) := HB5.out.trans (HB6.out.mono HB5.out.size)
  go_wp2_with (refine append_ev (.tmp 42) (.tmp 45) ?_)
  refine ⟨ao', es, ⟨w6.heap.size, 0, none⟩, 1, recEv K, none, 0, 0, rfl, HN3.out, (HE3.out.below HB36.out).below ((Below.refl _ _).alloc (Nat.le_refl _) _), by omega, rfl, ?_, ⟨none, 0, rfl, rfl, fun j hj => absurd hj (Nat.not_lt_zero j)⟩, ?_⟩
  · intro j u hj
    rw [Addr.add_mid, World.cell?_alloc_at _ _ _ _ rfl, Nat.zero_add, ← hj]
    simp [recEv]
  intro g w7 cap7 hb7 hev7
  have HB7 : Hid (Below w6.heap.size w6 w7) := ((Below.refl _ _).alloc (Nat.le_refl _) _).trans (hb7.mono (by simp))
  have HE7 := hid hev7
  clear hb7 hev7
  have HM7 : Hid (∀ i (h : i < (es ++ [recEv K]).length), Modest (es ++ [recEv K])[i]) := all_app HM.out (by simp [Modest, recEv])
  have HR7 : Hid (∀ i (h : i < (es ++ [recEv K]).length), InRange N (es ++ [recEv K])[i]) := all_app HR.out (recEv_inRange hK1 hKN)
  have HL7 : Hid ((es ++ [recEv K]).length = es.length + 1) := by show _ = _; simp
  have HSame := hid (fun i (h : i + 1 = K) => prOf_rec_same es h)
  have HOther := hid (fun i (h : i + 1 ≠ K) => prOf_rec_other es h)
  generalize es ++ [recEv K] = xs at *
  go_wp2_with fail
  refine (toRec_len (some ⟨g, 0, none⟩) _ xs (es.length + 1) cap7 w7 HL7.out (by omega) HM7.out HE7.out).mono ?_
  rintro e w8 ⟨rfl, hb8, hr8⟩
  have HB8 := hid hb8
  have HR8 := hid hr8
  clear hb8 hr8
  go_wp2_with fail
  refine (zzprocs_len N w7.heap.size xs (es.length + 1) (es.length + 1) w8 HL7.out hN (by omega) HR7.out HR8.out).mono ?_
  rintro e w9 ⟨Bb, rfl, hb9, hp9⟩
  have HB9 := hid hb9
  have HP9 := hid hp9
  clear hb9 hp9 HR8
  have HO := hid (prOf_out HM7.out)
  have HA6 : Hid (Below w6.heap.size w6 w9) := HB7.out.trans ((HB8.out.trans (HB9.out.mono HB8.out.size)).mono HB7.out.size)
  have HA1 : Hid (Below w1.heap.size w1 w9) := HB3.out.trans ((HB36.out.trans (HA6.out.mono HB36.out.size)).mono HB3.out.size)
  clear HM HR HE3 HB3 HN3 HM7 HR7 HL7 HE7 HB5 HB36 HB7 HB8
  generalize prOf es = pr at *
  generalize prOf xs = ps at *
  go_wp2
  go_loopg [10] N (fun g i wq => ∃ k : Nat, k ≤ N ∧ i = .int .i64 k ∧ g = N - k ∧ Below w9.heap.size w9 wq)
  case atStart => exact ⟨0, Nat.zero_le _, rfl, rfl, Below.refl _ _⟩
  case round =>
    obtain ⟨k, hk, rfl, rfl, hq⟩ := hrel
    by_cases hlt : k < N
    · obtain ⟨ra, ca, sa, a0, a1, a2, a3, a4, a5, a6⟩ := HP6.out.late HB6.out (HA6.out.trans (hq.mono HA6.out.size)) hlt
      obtain ⟨rb, cb, sb, b0, b1, b2, b3, b4, b5, b6⟩ := HP9.out.late HB9.out hq hlt
      have HSa := hid sa
      have HSb := hid sb
      have HOk := hid (HO.out k)
      have HQ := hid hq
      clear sa sb hq HO HP6 HP9
      by_cases hkk : k + 1 = K
      · have hs := HSame.out k hkk
        clear HSame HOther
        rw [hs] at b0 b1 b2 b3 b4 b5 b6 HSb HOk
        clear hs
        generalize pr k = p at *
        have hkk' : ((k : Int) == (K : Int) - 1) = true := beq_iff_eq.2 (by omega)
        have HKK := hid hkk
        clear hkk
        go_wp2
        generalize hW2 : wr.alloc (.cells #[Value.string p.name, Value.bool false, Value.bool p.unst, Value.bool p.exited, Value.bool false, Value.slice ra p.out.length ca, Value.int .i64 p.since] 36) = W2
        have HW2 : Hid (Below wr.heap.size wr W2) := by rw [← hW2]; exact (Below.refl _ _).alloc (Nat.le_refl _) _
        have n0 : W2.cell? ⟨wr.heap.size, 0, none⟩ = some (.string p.name) := by rw [← hW2]; simp [go_sem]
        have n1 : W2.cell? ⟨wr.heap.size, 1, none⟩ = some (.bool false) := by rw [← hW2]; simp [go_sem]
        have n2 : W2.cell? ⟨wr.heap.size, 2, none⟩ = some (.bool p.unst) := by rw [← hW2]; simp [go_sem]
        have n3 : W2.cell? ⟨wr.heap.size, 3, none⟩ = some (.bool p.exited) := by rw [← hW2]; simp [go_sem]
        have n4 : W2.cell? ⟨wr.heap.size, 4, none⟩ = some (.bool false) := by rw [← hW2]; simp [go_sem]
        have n5 : W2.cell? ⟨wr.heap.size, 5, none⟩ = some (.slice ra p.out.length ca) := by rw [← hW2]; simp [go_sem]
        have n6 : W2.cell? ⟨wr.heap.size, 6, none⟩ = some (.int .i64 p.since) := by rw [← hW2]; simp [go_sem]
        clear hW2 a0 a1 a2 a3 a4 a5 a6
        replace b0 := cell_later HW2.out b0
        replace b1 := cell_later HW2.out b1
        replace b2 := cell_later HW2.out b2
        replace b3 := cell_later HW2.out b3
        replace b4 := cell_later HW2.out b4
        replace b5 := cell_later HW2.out b5
        replace b6 := cell_later HW2.out b6
        go_still_tail 5, Try.mixed
        go_wp2_with fail
        refine (same_any { p with down := false, decided := false } (.slice rb p.out.length cb) (.slice ra p.out.length ca) _ HOk.out ?sA ?sB).mono ?_
        case sA => exact (HSb.out.below HW2.out).below (Below.refl _ _).drew
        case sB => exact (HSa.out.below HW2.out).below (Below.refl _ _).drew
        rintro e w10 ⟨rfl, hb10⟩
        have HB10 := hid hb10
        clear hb10
        go_wp2
        go_roundg (N - (k + 1))
        case measure => omega
        case rel => exact ⟨k + 1, by omega, by go_num, rfl, (HQ.out.trans (HW2.out.mono HQ.out.size)).drew.trans (HB10.out.mono (Nat.le_trans HQ.out.size HW2.out.size))⟩
      · have hs := HOther.out k hkk
        clear HSame HOther
        rw [hs] at b0 b1 b2 b3 b4 b5 b6 HSb HOk
        clear hs
        generalize pr k = p at *
        have hkk' : ((k : Int) == (K : Int) - 1) = false := beq_eq_false_iff_ne.2 (by omega)
        have HKK := hid hkk
        clear hkk
        go_wp2
        go_still_tail 8, Try.mixed
        go_wp2_with fail
        refine (same_any p (.slice rb p.out.length cb) (.slice ra p.out.length ca) _ HOk.out ?sA ?sB).mono ?_
        case sA => exact HSb.out.below (Below.refl _ _).drew
        case sB => exact HSa.out.below (Below.refl _ _).drew
        rintro e w10 ⟨rfl, hb10⟩
        have HB10 := hid hb10
        clear hb10
        go_wp2
        go_roundg (N - (k + 1))
        case measure => omega
        case rel => exact ⟨k + 1, by omega, by go_num, rfl, HQ.out.drew.trans (HB10.out.mono HQ.out.size)⟩
    · have HQ := hid hq
      clear hq
      go_wp2
      exact hR.out _ _ ⟨rfl, HA1.out.trans (HQ.out.mono HA1.out.size)⟩
end Go.Proofs.Qxb6600401a
