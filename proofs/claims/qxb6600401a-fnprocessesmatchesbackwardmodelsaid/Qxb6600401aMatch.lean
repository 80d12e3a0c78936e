/-
  THE WALK OF zzSameModel (13), where the two records are the same; THE WALK OF THE LAW FnProcessesMatchesBackwardModel (3).
-/
import Derived.Test.Qxb6600401aModel
namespace Go.Proofs.Qxb6600401a
open Go.RowKit

set_option maxRecDepth 100000 in
set_option maxHeartbeats 2000000 in
theorem sameModel_any (p : Pr) (va vb : Value) (w : World) (hm : p.out.length ≤ 1048576) (ha : StrsAt w (fun _ => True) va p.nl p.out) (hb : StrsAt w (fun _ => True) vb p.nl p.out) :
    Calls Try.prog 13 #[.agg (prc p va).toArray, .agg (prc p vb).toArray] w fun e w' => e = .returned (.bool true) ∧ Below w.heap.size w w' := by
  refine hideR fun R' hR => ?_
  have q34 : ∀ (w : World) (a : Option Addr) (n c : Nat), (binOp .eql 34 (.slice a n c) (.slice none 0 0)).run Try.prog w = .ok (.bool a.isNone) w := fun w a n c => Lib.run_eql_slice_nil w _ _ _ _ _ _ _ Try.underlying34
  have q37 : ∀ (w : World) (a : Option Addr) (n c : Nat), (binOp .eql 37 (.slice a n c) (.slice none 0 0)).run Try.prog w = .ok (.bool a.isNone) w := fun w a n c => Lib.run_eql_slice_nil w _ _ _ _ _ _ _ Try.underlying37
  obtain ⟨aa, ca, rfl, hna, hca⟩ := ha
  obtain ⟨ab, cb, rfl, hnb, hcb⟩ := hb
  have hnn : aa.isNone = ab.isNone := by rw [hna, hnb]
  have HA := (show Hid _ from hca)
  have HB := (show Hid _ from hcb)
  clear hca hcb hna hnb
  go_enter Try.func13, Try.ntmps13
  go_wp2
  generalize hW : (w.alloc (Obj.cells (prc p (Value.slice aa p.out.length ca)).toArray 36)).alloc (Obj.cells (prc p (Value.slice ab p.out.length cb)).toArray 39) = W
  have HW : Hid (Below w.heap.size w W) := by rw [← hW]; exact ((Below.refl _ _).alloc (Nat.le_refl _) _).alloc (by simp) _
  have ha5 : W.cell? ⟨w.heap.size, 5, none⟩ = some (.slice aa p.out.length ca) := by rw [← hW]; simp [go_sem]
  have hb5 : W.cell? ⟨w.heap.size + 1, 5, none⟩ = some (.slice ab p.out.length cb) := by rw [← hW]; simp [go_sem]
  clear hW hnn
  go_loopg [5] p.out.length (fun g i wr => ∃ j q : Nat, j ≤ p.out.length ∧ i = .int .i64 j ∧ g = p.out.length - j ∧ wr = W.drewN q)
  case atStart => exact ⟨0, 0, Nat.zero_le _, rfl, rfl, rfl⟩
  case round =>
    obtain ⟨j, q, hj, rfl, rfl, rfl⟩ := hrel
    by_cases hlt : j < p.out.length
    · obtain ⟨b1, o1, rfl, _, h1⟩ := HA.out j hlt
      obtain ⟨b2, o2, rfl, _, h2⟩ := HB.out j hlt
      replace h1 := cell_later HW.out h1
      replace h2 := cell_later HW.out h2
      clear HA HB
      generalize p.out[j] = s at *
      go_wp2
      go_quiet (fail)
      go_wp2
      go_roundg (p.out.length - (j + 1))
      case measure => omega
      case rel => exact ⟨j + 1, _, by omega, by go_num, rfl, rfl⟩
    · go_wp2
      exact hR.out _ _ ⟨rfl, HW.out.trans (Below.of_drewN _)⟩
set_option maxRecDepth 100000 in
set_option maxHeartbeats 4000000 in
theorem match_walk (n : Int) (hn64 : -9223372036854775808 ≤ n ∧ n ≤ 9223372036854775807) (ao : Option Addr) (es : List Ev) (cap : Nat) (w : World) (hnil : ao = none → es = []) (hl : es.length ≤ maxLen)
    (hev : EvsAt w (fun _ => True) ao es) :
    Calls Try.prog 3 #[.int .i64 n, .slice ao es.length cap] w fun e w' => e = .returned (.bool true) ∧ Below w.heap.size w w' := by
  refine hideR fun R' hR => ?_
  have HB := hid (bytes6 n ao _ es cap w hev)
  have HT := hid (tooBig_any ao _ es cap w hev)
  have HE := hid hev
  have HL := hid hl
  have HN := hid hnil
  clear hev hl hnil
  go_enter Try.func3, Try.ntmps3
  go_wp2_with fail
  refine HB.out.mono ?_
  rintro e w1 ⟨r, rfl, rfl⟩
  clear HB
  cases r with
  | false =>
    go_wp2
    exact hR.out _ _ ⟨rfl, Below.refl _ _⟩
  | true =>
  go_wp2_with fail
  refine HT.out.mono ?_
  rintro e w2 ⟨r, rfl, ⟨q, rfl⟩, hbig⟩
  clear HT
  cases r with
  | true =>
    go_wp2
    exact hR.out _ _ ⟨rfl, Below.of_drewN _⟩
  | false =>
  obtain ⟨hl1, hm⟩ := hbig rfl
  clear hbig
  have HM := hid hm
  clear hm
  by_cases hn0 : n < 0
  · go_wp2
    exact hR.out _ _ ⟨rfl, Below.of_drewN _⟩
  by_cases hn1 : 65536 < n
  · go_wp2
    exact hR.out _ _ ⟨rfl, Below.of_drewN _⟩
  obtain ⟨N, rfl⟩ : ∃ N : Nat, n = (N : Int) := ⟨n.toNat, by omega⟩
  clear hn64
  have hN : N ≤ 65536 := by omega
  clear hn0 hn1
  go_wp2_with fail
  refine (procs_any (N : Int) ao _ es cap (w1.drewN q) HL.out (HE.out.below (Below.of_drewN _))).mono ?_
  rintro e w2 ⟨r, rfl, rfl, hr⟩
  cases r with
  | false =>
    go_wp2
    exact hR.out _ _ ⟨rfl, Below.of_drewN _⟩
  | true =>
  have HR := hid (hr rfl)
  clear hr
  go_wp2_with fail
  refine (copy_any ao _ es cap (w1.drewN q) HN.out hl1 HM.out (HE.out.below (Below.of_drewN _))).mono ?_
  rintro e w3 ⟨ao', rfl, _, hev', hbel⟩
  have HB3 : Hid (Below w1.heap.size w1 w3) := (Below.of_drewN q).trans hbel
  have HE3 := hid hev'
  clear hev' hbel HE HN HL
  go_wp2_with fail
  refine (toRec_any ao' _ es es.length w3 (by omega) HM.out HE3.out).mono ?_
  rintro e w5 ⟨rfl, hb5, hr5⟩
  have HB5 := hid hb5
  have HR5 := hid hr5
  clear hb5 hr5
  go_wp2_with fail
  refine (zzprocs_any N w3.heap.size es es.length w5 hN (by omega) HR.out HR5.out).mono ?_
  rintro e w6 ⟨Ba, rfl, hb6, hp6⟩
  have HB6 := hid hb6
  have HP6 := hid hp6
  clear hb6 hp6 HR5
  have HB36 : Hid (Below w3.heap.size w3 w6) := HB5.out.trans (HB6.out.mono HB5.out.size)
  go_wp2_with fail
  refine (model_any N ao' es es.length w6 hN (by omega) HR.out (HE3.out.below HB36.out)).mono ?_
  rintro e w8 ⟨rfl, hbt⟩
  have HA6 : Hid (Below w6.heap.size w6 w8) := hbt.below
  have HP8 := hid (hbt.tab.congr (fun i _ => (prOf_bkOf es i).symm))
  clear hbt
  have HO := hid (prOf_out HM.out)
  have HA1 : Hid (Below w1.heap.size w1 w8) := HB3.out.trans ((HB36.out.trans (HA6.out.mono HB36.out.size)).mono HB3.out.size)
  clear HM HR HE3 HB3 HB5 HB36
  generalize prOf es = pr at *
  go_wp2
  go_loopg [7] N (fun g i wq => ∃ k : Nat, k ≤ N ∧ i = .int .i64 k ∧ g = N - k ∧ Below w8.heap.size w8 wq)
  case atStart => exact ⟨0, Nat.zero_le _, rfl, rfl, Below.refl _ _⟩
  case round =>
    obtain ⟨k, hk, rfl, rfl, hq⟩ := hrel
    by_cases hlt : k < N
    · obtain ⟨ra, ca, sa, a0, a1, a2, a3, a4, a5, a6⟩ := HP6.out.late HB6.out (HA6.out.trans (hq.mono HA6.out.size)) hlt
      obtain ⟨rb, cb, sb, b0, b1, b2, b3, b4, b5, b6⟩ := HP8.out.late HA6.out hq hlt
      have HSa := hid sa
      have HSb := hid sb
      have HOk := hid (HO.out k)
      have HQ := hid hq
      clear sa sb hq HO HP6 HP8
      generalize pr k = p at *
      go_wp2
      go_still_tail 8, Try.mixed
      go_wp2_with fail
      refine (sameModel_any p (.slice ra p.out.length ca) (.slice rb p.out.length cb) _ HOk.out ?sA ?sB).mono ?_
      case sA => exact HSa.out.below (Below.refl _ _).drew
      case sB => exact HSb.out.below (Below.refl _ _).drew
      rintro e w9 ⟨rfl, hb9⟩
      have HB9 := hid hb9
      clear hb9
      go_wp2
      go_roundg (N - (k + 1))
      case measure => omega
      case rel => exact ⟨k + 1, by omega, by go_num, rfl, HQ.out.drew.trans (HB9.out.mono HQ.out.size)⟩
    · have HQ := hid hq
      clear hq
      go_wp2
      exact hR.out _ _ ⟨rfl, HA1.out.trans (HQ.out.mono HA1.out.size)⟩

end Go.Proofs.Qxb6600401a
