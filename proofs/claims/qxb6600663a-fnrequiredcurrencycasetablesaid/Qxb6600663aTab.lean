/-
  THE WALK OF THE LAW FnRequiredCurrencyCaseTable (8).
-/
import Derived.Test.Qxb6600663aTabParts
namespace Go.Proofs.Qxb6600663a
open Go.RowKit

theorem Below.of_drewN' {B : Nat} {w : World} (n : Nat) : Below B w (w.drewN n) := ⟨rfl, rfl, rfl, Nat.le_refl _, fun _ _ => rfl⟩

set_option maxRecDepth 100000 in
set_option maxHeartbeats 4000000 in
theorem table_walk (ao bo : Option Addr) (pf pm : List ByteArray) (c1 c2 : Nat) (sp : Int) (field text : ByteArray) (pr : Bool) (w : World) (hsp : 0 ≤ sp ∧ sp ≤ 255) (hna : ao = none → pf = []) (hnb : bo = none → pm = []) (hx : SAt w ao pf) (hy : SAt w bo pm) :
    Calls Try.prog 8 #[.slice ao pf.length c1, .slice bo pm.length c2, .int .u8 sp, .string field, .bool pr, .string text] w fun e w' => e = .returned (.bool true) ∧ Below w.heap.size w w' := by
  refine hideR fun R' hR => ?_
  have H20 := hid (bytes20 ao bo pf pm c1 c2 sp field text pr w hx hy)
  have H21 := hid (in21 ao bo pf pm c1 c2 field text w hx hy)
  have HX := hid hx
  have HY := hid hy
  have HNA := hid hna
  have HNB := hid hnb
  obtain ⟨S, rfl⟩ : ∃ S : Nat, sp = (S : Int) := ⟨sp.toNat, by omega⟩
  have hS : S ≤ 255 := by omega
  clear hx hy hna hnb hsp
  go_enter Try.func8, Try.ntmps8
  go_wp2_with fail
  refine H20.out.mono ?_
  rintro e w1 ⟨r, rfl, hw⟩
  rw [hw]
  clear H20 hw
  cases r with
  | false =>
    go_wp2
    exact hR.out _ _ ⟨rfl, Below.refl _ _⟩
  | true =>
  go_wp2_with fail
  refine H21.out.mono ?_
  rintro e w1 ⟨r, rfl, hw, hr⟩
  rw [hw]
  clear H21 hw
  cases r with
  | false =>
    go_wp2
    exact hR.out _ _ ⟨rfl, Below.refl _ _⟩
  | true =>
  obtain ⟨hl1, hl2, hl3⟩ := hr rfl
  clear hr
  go_wp2_with fail
  refine (cloneS_any ao pf c1 w HNA.out hl1 HX.out).mono ?_
  rintro e w2 ⟨ao', rfl, hx2, hb2⟩
  have HX2 := hid hx2
  have HB2 := hid hb2
  clear hx2 hb2
  go_wp2_with fail
  refine (cloneS_any bo pm c2 w2 HNB.out hl2 (HY.out.below HB2.out)).mono ?_
  rintro e w3 ⟨bo', rfl, hy3, hb3⟩
  have HY3 := hid hy3
  have HX3 := hid (HX2.out.below hb3)
  have HB3 := hid (HB2.out.trans (hb3.mono HB2.out.size))
  clear hy3 hb3 HX2 HB2 HX HY HNA HNB
  have HP := hid (prevOf_len pf pm)
  have HPG := hid (prevOf_get pf pm)
  obtain ⟨N, hN⟩ : ∃ N, Hid ((prevOf pf pm).length = N) := ⟨_, rfl⟩
  by_cases hlt : pm.length < pf.length
  · have hNe : pm.length = N := by rw [← hN.out, HP.out]; omega
    have hNf : N ≤ pf.length := by omega
    have hNm : N ≤ pm.length := by omega
    have hNb : N ≤ 65536 := by omega
    have d45 : decide (N < pf.length) = true := by simp; omega
    have d45' : decide ((N : Int) < (pf.length : Int)) = true := by simp; omega
    have mk := make37 N (N + S) (by omega) (by omega)
    simp only [Int.natCast_add] at mk
    go_wp2
    clear mk
    clear hNe hlt HP
    have hI := finv_start w3 (N + S) (prevOf pf pm) (ZE ((N + S) * 2)) (size_ZE _)
    rw [hN.out] at hI
    generalize ZE ((N + S) * 2) = c0 at *
    go_loopg [15] N (fun g i wr => ∃ k : Nat, k ≤ N ∧ i = .int .i64 k ∧ g = N - k ∧ FInv w3 (N + S) (prevOf pf pm) k wr)
    case atStart => exact ⟨0, Nat.zero_le _, rfl, rfl, hI⟩
    case round =>
      clear hI
      obtain ⟨k, hk, rfl, rfl, hI⟩ := hrel
      have HI := hid hI
      clear hI
      by_cases hkN : k < N
      · have hkf : k < pf.length := by omega
        have hkm : k < pm.length := by omega
        have hkp : k < (prevOf pf pm).length := by rw [hN.out]; exact hkN
        obtain ⟨b1, o1, rfl, g1⟩ := HX3.out k hkf
        obtain ⟨b2, o2, rfl, g2⟩ := HY3.out k hkm
        replace g1 := cell_later HI.out.below g1
        replace g2 := cell_later HI.out.below g2
        have hep : wr.cell? ⟨w3.heap.size + 1, 0, none⟩ = some (.slice (some ⟨w3.heap.size, 0, none⟩) N (N + S)) := by
          have := cell_one HI.out.ptr
          rwa [hN.out] at this
        have HT := hid (HI.out.there hkp (by rw [hN.out]; omega))
        have HS : Hid (FInv w3 (N + S) (prevOf pf pm) (k + 1) (wr.drew.setCells w3.heap.size (k * 2) (fcells (FE.mk pf[k] pm[k])))) := by
          have h := HI.out.step hkp (by rw [hN.out]; omega)
          rw [HPG.out k hkp] at h
          exact h
        clear hkp
        generalize pf[k] = x at *
        generalize pm[k] = y at *
        go_wp2
        go_still_tail 12, Try.mixed
        refine store_fe (.tmp 70) (.tmp 69) ?_
        refine ⟨w3.heap.size, k * 2, ⟨x, y⟩, rfl, rfl, HT.out, ?_⟩
        go_wp2
        go_roundg (N - (k + 1))
        case measure => omega
        case rel => exact ⟨k + 1, by omega, by go_num, rfl, HS.out⟩
      · obtain rfl : k = N := by omega
        have HE0 : Hid (ErrsIn wr (w3.heap.size + 1) w3.heap.size (.slice (some ⟨w3.heap.size, 0, none⟩) k (k + S)) (prevOf pf pm)) := by
          have := HI.out
          rw [← hN.out] at this ⊢
          exact this.errs (by omega) (by rw [hN.out]; omega)
        have HB0 := hid HI.out.below
        have HE1 := hid (HE0.out.alloc (.cells #[.string text] 9))
        have HT1 := hid (heap_new wr (.cells #[.string text] 9))
        have hsz := HE1.out.ptr
        have HEl : Hid (w3.heap.size + 1 < wr.heap.size) := (Array.getElem?_eq_some_iff.1 HE0.out.ptr).1
        clear hsz HI HE0
        cases pr with
        | false =>
          go_wp2_with fail
          refine (reqCur_nil _ (w3.heap.size + 1) w3.heap.size _ (prevOf pf pm) field text HE1.out (by rw [hN.out]; omega) (by simp; have := HEl.out; omega)).mono ?_
          rintro e w5 ⟨rfl, v5, he5, hk5⟩
          have HT5 := hid (hk5.other HE1.out.row HT1.out (by decide) (by have := HEl.out; omega))
          have HB5 : Hid (Below w3.heap.size w3 w5) := (HB0.out.alloc HB0.out.size _).trans (hk5.below HE1.out.row (by omega) (Nat.le_refl _) (by simp; have := HEl.out; omega))
          have HX5 := hid (HX3.out.below HB5.out)
          have HY5 := hid (HY3.out.below HB5.out)
          have ht5 := cell_one HT5.out
          have HE5 := hid he5
          clear he5 hk5 HE1 HT1 HX3 HY3 HB0
          have HN5 : Hid (newErr false text field = [FE.mk field msgReq]) := rfl
          rw [HN5.out] at HE5
          obtain ⟨eo, ecap, rfl, hec⟩ := HE5.out.cells
          have hE5 := cell_one HE5.out.ptr
          have HL5 : Hid ((prevOf pf pm ++ [FE.mk field msgReq]).length = k + 1) := by show _ = _; rw [List.length_append, hN.out]; rfl
          rw [HL5.out] at hE5
          have HEC := hid hec
          clear hec
          go_wp2
          go_loopg [20] k (fun g i wq => ∃ j q : Nat, j ≤ k ∧ i = .int .i64 j ∧ g = k - j ∧ wq = w5.drewN q)
          case atStart => exact ⟨0, 0, Nat.zero_le _, rfl, rfl, rfl⟩
          case round =>
            obtain ⟨j, q, hj, rfl, rfl, rfl⟩ := hrel
            by_cases hjk : j < k
            · have hjf : j < pf.length := by omega
              have hjm : j < pm.length := by omega
              have hjp : j < (prevOf pf pm).length := by rw [hN.out]; exact hjk
              have hjt : j < (prevOf pf pm ++ [FE.mk field msgReq]).length := by rw [HL5.out]; omega
              obtain ⟨b1, o1, rfl, g1⟩ := HX5.out j hjf
              obtain ⟨b2, o2, rfl, g2⟩ := HY5.out j hjm
              obtain ⟨ge, rfl, e1, e2⟩ := HEC.out j hjt
              have hge : (prevOf pf pm ++ [FE.mk field msgReq])[j] = FE.mk pf[j] pm[j] := by rw [List.getElem_append_left hjp]; exact HPG.out j hjp
              rw [hge] at e1 e2
              clear hge hjp hjt HEC HX5 HY5
              generalize pf[j] = x at *
              generalize pm[j] = y at *
              go_wp2
              go_quiet (fail)
              go_wp2
              go_roundg (k - (j + 1))
              case measure => omega
              case rel => exact ⟨j + 1, _, by omega, by go_num, rfl, rfl⟩
            · obtain rfl : j = k := by omega
              have hjt : j < (prevOf pf pm ++ [FE.mk field msgReq]).length := by rw [HL5.out]; omega
              obtain ⟨ge, rfl, e1, e2⟩ := HEC.out j hjt
              have hge : (prevOf pf pm ++ [FE.mk field msgReq])[j] = FE.mk field msgReq := by
                rw [List.getElem_append_right (by rw [hN.out]; omega)]
                simp
              rw [hge] at e1 e2
              clear hge hjt HEC HX5 HY5
              go_wp2
              exact hR.out _ _ ⟨rfl, (HB3.out.trans (HB5.out.mono HB3.out.size)).trans (Below.of_drewN' _)⟩

        | true =>
          go_wp2_with fail
          refine (reqCur_some _ (w3.heap.size + 1) w3.heap.size _ (prevOf pf pm) field text wr.heap.size HE1.out (by rw [hN.out]; omega) (by simp; have := HEl.out; omega) (cell_one HT1.out)).mono ?_
          rintro e w5 ⟨rfl, v5, he5, hk5⟩
          have HT5 := hid (hk5.other HE1.out.row HT1.out (by decide) (by have := HEl.out; omega))
          have HB5 : Hid (Below w3.heap.size w3 w5) := (HB0.out.alloc HB0.out.size _).trans (hk5.below HE1.out.row (by omega) (Nat.le_refl _) (by simp; have := HEl.out; omega))
          have HX5 := hid (HX3.out.below HB5.out)
          have HY5 := hid (HY3.out.below HB5.out)
          have ht5 := cell_one HT5.out
          have HE5 := hid he5
          clear he5 hk5 HE1 HT1 HX3 HY3 HB0
          go_wp2_with fail
          refine (curModel_any text hl3 w5).mono ?_
          rintro e w6 ⟨r, rfl, hw6, hr6⟩
          rw [hw6]
          have hrb : curB text = r := by
            have := (curB_iff text).trans hr6.symm
            cases r <;> cases hcb : curB text <;> simp_all
          clear hr6 hw6
          cases r with
          | true =>
            have HN5 : Hid (newErr true text field = []) := by show _ = _; simp [newErr, hrb]
            rw [HN5.out] at HE5
            clear hrb
            obtain ⟨eo, ecap, rfl, hec⟩ := HE5.out.cells
            have hE5 := cell_one HE5.out.ptr
            have HL5 : Hid ((prevOf pf pm ++ []).length = k + 0) := by show _ = _; rw [List.length_append, hN.out]; rfl
            rw [HL5.out] at hE5
            have HEC := hid hec
            clear hec
            go_wp2
            go_loopg [20] k (fun g i wq => ∃ j q : Nat, j ≤ k ∧ i = .int .i64 j ∧ g = k - j ∧ wq = w5.drewN q)
            case atStart => exact ⟨0, 0, Nat.zero_le _, rfl, rfl, rfl⟩
            case round =>
              obtain ⟨j, q, hj, rfl, rfl, rfl⟩ := hrel
              by_cases hjk : j < k
              · have hjf : j < pf.length := by omega
                have hjm : j < pm.length := by omega
                have hjp : j < (prevOf pf pm).length := by rw [hN.out]; exact hjk
                have hjt : j < (prevOf pf pm ++ []).length := by rw [HL5.out]; omega
                obtain ⟨b1, o1, rfl, g1⟩ := HX5.out j hjf
                obtain ⟨b2, o2, rfl, g2⟩ := HY5.out j hjm
                obtain ⟨ge, rfl, e1, e2⟩ := HEC.out j hjt
                have hge : (prevOf pf pm ++ [])[j] = FE.mk pf[j] pm[j] := by rw [List.getElem_append_left hjp]; exact HPG.out j hjp
                rw [hge] at e1 e2
                clear hge hjp hjt HEC HX5 HY5
                generalize pf[j] = x at *
                generalize pm[j] = y at *
                go_wp2
                go_quiet (fail)
                go_wp2
                go_roundg (k - (j + 1))
                case measure => omega
                case rel => exact ⟨j + 1, _, by omega, by go_num, rfl, rfl⟩
              · clear HEC HX5 HY5
                go_wp2
                exact hR.out _ _ ⟨rfl, (HB3.out.trans (HB5.out.mono HB3.out.size)).trans (Below.of_drewN' _)⟩

          | false =>
            have HN5 : Hid (newErr true text field = [FE.mk field msgBad]) := by show _ = _; simp [newErr, hrb]
            rw [HN5.out] at HE5
            clear hrb
            obtain ⟨eo, ecap, rfl, hec⟩ := HE5.out.cells
            have hE5 := cell_one HE5.out.ptr
            have HL5 : Hid ((prevOf pf pm ++ [FE.mk field msgBad]).length = k + 1) := by show _ = _; rw [List.length_append, hN.out]; rfl
            rw [HL5.out] at hE5
            have HEC := hid hec
            clear hec
            go_wp2
            go_loopg [20] k (fun g i wq => ∃ j q : Nat, j ≤ k ∧ i = .int .i64 j ∧ g = k - j ∧ wq = w5.drewN q)
            case atStart => exact ⟨0, 0, Nat.zero_le _, rfl, rfl, rfl⟩
            case round =>
              obtain ⟨j, q, hj, rfl, rfl, rfl⟩ := hrel
              by_cases hjk : j < k
              · have hjf : j < pf.length := by omega
                have hjm : j < pm.length := by omega
                have hjp : j < (prevOf pf pm).length := by rw [hN.out]; exact hjk
                have hjt : j < (prevOf pf pm ++ [FE.mk field msgBad]).length := by rw [HL5.out]; omega
                obtain ⟨b1, o1, rfl, g1⟩ := HX5.out j hjf
                obtain ⟨b2, o2, rfl, g2⟩ := HY5.out j hjm
                obtain ⟨ge, rfl, e1, e2⟩ := HEC.out j hjt
                have hge : (prevOf pf pm ++ [FE.mk field msgBad])[j] = FE.mk pf[j] pm[j] := by rw [List.getElem_append_left hjp]; exact HPG.out j hjp
                rw [hge] at e1 e2
                clear hge hjp hjt HEC HX5 HY5
                generalize pf[j] = x at *
                generalize pm[j] = y at *
                go_wp2
                go_quiet (fail)
                go_wp2
                go_roundg (k - (j + 1))
                case measure => omega
                case rel => exact ⟨j + 1, _, by omega, by go_num, rfl, rfl⟩
              · obtain rfl : j = k := by omega
                have hjt : j < (prevOf pf pm ++ [FE.mk field msgBad]).length := by rw [HL5.out]; omega
                obtain ⟨ge, rfl, e1, e2⟩ := HEC.out j hjt
                have hge : (prevOf pf pm ++ [FE.mk field msgBad])[j] = FE.mk field msgBad := by
                  rw [List.getElem_append_right (by rw [hN.out]; omega)]
                  simp
                rw [hge] at e1 e2
                clear hge hjt HEC HX5 HY5
                go_wp2
                exact hR.out _ _ ⟨rfl, (HB3.out.trans (HB5.out.mono HB3.out.size)).trans (Below.of_drewN' _)⟩


  · have hNe : pf.length = N := by rw [← hN.out, HP.out]; omega
    have hNf : N ≤ pf.length := by omega
    have hNm : N ≤ pm.length := by omega
    have hNb : N ≤ 65536 := by omega
    have d45 : decide (pm.length < N) = false := by simp; omega
    have d45' : decide ((pm.length : Int) < (N : Int)) = false := by simp; omega
    have mk := make37 N (N + S) (by omega) (by omega)
    simp only [Int.natCast_add] at mk
    go_wp2
    clear mk
    clear hNe hlt HP
    have hI := finv_start w3 (N + S) (prevOf pf pm) (ZE ((N + S) * 2)) (size_ZE _)
    rw [hN.out] at hI
    generalize ZE ((N + S) * 2) = c0 at *
    go_loopg [15] N (fun g i wr => ∃ k : Nat, k ≤ N ∧ i = .int .i64 k ∧ g = N - k ∧ FInv w3 (N + S) (prevOf pf pm) k wr)
    case atStart => exact ⟨0, Nat.zero_le _, rfl, rfl, hI⟩
    case round =>
      clear hI
      obtain ⟨k, hk, rfl, rfl, hI⟩ := hrel
      have HI := hid hI
      clear hI
      by_cases hkN : k < N
      · have hkf : k < pf.length := by omega
        have hkm : k < pm.length := by omega
        have hkp : k < (prevOf pf pm).length := by rw [hN.out]; exact hkN
        obtain ⟨b1, o1, rfl, g1⟩ := HX3.out k hkf
        obtain ⟨b2, o2, rfl, g2⟩ := HY3.out k hkm
        replace g1 := cell_later HI.out.below g1
        replace g2 := cell_later HI.out.below g2
        have hep : wr.cell? ⟨w3.heap.size + 1, 0, none⟩ = some (.slice (some ⟨w3.heap.size, 0, none⟩) N (N + S)) := by
          have := cell_one HI.out.ptr
          rwa [hN.out] at this
        have HT := hid (HI.out.there hkp (by rw [hN.out]; omega))
        have HS : Hid (FInv w3 (N + S) (prevOf pf pm) (k + 1) (wr.drew.setCells w3.heap.size (k * 2) (fcells (FE.mk pf[k] pm[k])))) := by
          have h := HI.out.step hkp (by rw [hN.out]; omega)
          rw [HPG.out k hkp] at h
          exact h
        clear hkp
        generalize pf[k] = x at *
        generalize pm[k] = y at *
        go_wp2
        go_still_tail 12, Try.mixed
        refine store_fe (.tmp 70) (.tmp 69) ?_
        refine ⟨w3.heap.size, k * 2, ⟨x, y⟩, rfl, rfl, HT.out, ?_⟩
        go_wp2
        go_roundg (N - (k + 1))
        case measure => omega
        case rel => exact ⟨k + 1, by omega, by go_num, rfl, HS.out⟩
      · obtain rfl : k = N := by omega
        have HE0 : Hid (ErrsIn wr (w3.heap.size + 1) w3.heap.size (.slice (some ⟨w3.heap.size, 0, none⟩) k (k + S)) (prevOf pf pm)) := by
          have := HI.out
          rw [← hN.out] at this ⊢
          exact this.errs (by omega) (by rw [hN.out]; omega)
        have HB0 := hid HI.out.below
        have HE1 := hid (HE0.out.alloc (.cells #[.string text] 9))
        have HT1 := hid (heap_new wr (.cells #[.string text] 9))
        have hsz := HE1.out.ptr
        have HEl : Hid (w3.heap.size + 1 < wr.heap.size) := (Array.getElem?_eq_some_iff.1 HE0.out.ptr).1
        clear hsz HI HE0
        cases pr with
        | false =>
          go_wp2_with fail
          refine (reqCur_nil _ (w3.heap.size + 1) w3.heap.size _ (prevOf pf pm) field text HE1.out (by rw [hN.out]; omega) (by simp; have := HEl.out; omega)).mono ?_
          rintro e w5 ⟨rfl, v5, he5, hk5⟩
          have HT5 := hid (hk5.other HE1.out.row HT1.out (by decide) (by have := HEl.out; omega))
          have HB5 : Hid (Below w3.heap.size w3 w5) := (HB0.out.alloc HB0.out.size _).trans (hk5.below HE1.out.row (by omega) (Nat.le_refl _) (by simp; have := HEl.out; omega))
          have HX5 := hid (HX3.out.below HB5.out)
          have HY5 := hid (HY3.out.below HB5.out)
          have ht5 := cell_one HT5.out
          have HE5 := hid he5
          clear he5 hk5 HE1 HT1 HX3 HY3 HB0
          have HN5 : Hid (newErr false text field = [FE.mk field msgReq]) := rfl
          rw [HN5.out] at HE5
          obtain ⟨eo, ecap, rfl, hec⟩ := HE5.out.cells
          have hE5 := cell_one HE5.out.ptr
          have HL5 : Hid ((prevOf pf pm ++ [FE.mk field msgReq]).length = k + 1) := by show _ = _; rw [List.length_append, hN.out]; rfl
          rw [HL5.out] at hE5
          have HEC := hid hec
          clear hec
          go_wp2
          go_loopg [20] k (fun g i wq => ∃ j q : Nat, j ≤ k ∧ i = .int .i64 j ∧ g = k - j ∧ wq = w5.drewN q)
          case atStart => exact ⟨0, 0, Nat.zero_le _, rfl, rfl, rfl⟩
          case round =>
            obtain ⟨j, q, hj, rfl, rfl, rfl⟩ := hrel
            by_cases hjk : j < k
            · have hjf : j < pf.length := by omega
              have hjm : j < pm.length := by omega
              have hjp : j < (prevOf pf pm).length := by rw [hN.out]; exact hjk
              have hjt : j < (prevOf pf pm ++ [FE.mk field msgReq]).length := by rw [HL5.out]; omega
              obtain ⟨b1, o1, rfl, g1⟩ := HX5.out j hjf
              obtain ⟨b2, o2, rfl, g2⟩ := HY5.out j hjm
              obtain ⟨ge, rfl, e1, e2⟩ := HEC.out j hjt
              have hge : (prevOf pf pm ++ [FE.mk field msgReq])[j] = FE.mk pf[j] pm[j] := by rw [List.getElem_append_left hjp]; exact HPG.out j hjp
              rw [hge] at e1 e2
              clear hge hjp hjt HEC HX5 HY5
              generalize pf[j] = x at *
              generalize pm[j] = y at *
              go_wp2
              go_quiet (fail)
              go_wp2
              go_roundg (k - (j + 1))
              case measure => omega
              case rel => exact ⟨j + 1, _, by omega, by go_num, rfl, rfl⟩
            · obtain rfl : j = k := by omega
              have hjt : j < (prevOf pf pm ++ [FE.mk field msgReq]).length := by rw [HL5.out]; omega
              obtain ⟨ge, rfl, e1, e2⟩ := HEC.out j hjt
              have hge : (prevOf pf pm ++ [FE.mk field msgReq])[j] = FE.mk field msgReq := by
                rw [List.getElem_append_right (by rw [hN.out]; omega)]
                simp
              rw [hge] at e1 e2
              clear hge hjt HEC HX5 HY5
              go_wp2
              exact hR.out _ _ ⟨rfl, (HB3.out.trans (HB5.out.mono HB3.out.size)).trans (Below.of_drewN' _)⟩

        | true =>
          go_wp2_with fail
          refine (reqCur_some _ (w3.heap.size + 1) w3.heap.size _ (prevOf pf pm) field text wr.heap.size HE1.out (by rw [hN.out]; omega) (by simp; have := HEl.out; omega) (cell_one HT1.out)).mono ?_
          rintro e w5 ⟨rfl, v5, he5, hk5⟩
          have HT5 := hid (hk5.other HE1.out.row HT1.out (by decide) (by have := HEl.out; omega))
          have HB5 : Hid (Below w3.heap.size w3 w5) := (HB0.out.alloc HB0.out.size _).trans (hk5.below HE1.out.row (by omega) (Nat.le_refl _) (by simp; have := HEl.out; omega))
          have HX5 := hid (HX3.out.below HB5.out)
          have HY5 := hid (HY3.out.below HB5.out)
          have ht5 := cell_one HT5.out
          have HE5 := hid he5
          clear he5 hk5 HE1 HT1 HX3 HY3 HB0
          go_wp2_with fail
          refine (curModel_any text hl3 w5).mono ?_
          rintro e w6 ⟨r, rfl, hw6, hr6⟩
          rw [hw6]
          have hrb : curB text = r := by
            have := (curB_iff text).trans hr6.symm
            cases r <;> cases hcb : curB text <;> simp_all
          clear hr6 hw6
          cases r with
          | true =>
            have HN5 : Hid (newErr true text field = []) := by show _ = _; simp [newErr, hrb]
            rw [HN5.out] at HE5
            clear hrb
            obtain ⟨eo, ecap, rfl, hec⟩ := HE5.out.cells
            have hE5 := cell_one HE5.out.ptr
            have HL5 : Hid ((prevOf pf pm ++ []).length = k + 0) := by show _ = _; rw [List.length_append, hN.out]; rfl
            rw [HL5.out] at hE5
            have HEC := hid hec
            clear hec
            go_wp2
            go_loopg [20] k (fun g i wq => ∃ j q : Nat, j ≤ k ∧ i = .int .i64 j ∧ g = k - j ∧ wq = w5.drewN q)
            case atStart => exact ⟨0, 0, Nat.zero_le _, rfl, rfl, rfl⟩
            case round =>
              obtain ⟨j, q, hj, rfl, rfl, rfl⟩ := hrel
              by_cases hjk : j < k
              · have hjf : j < pf.length := by omega
                have hjm : j < pm.length := by omega
                have hjp : j < (prevOf pf pm).length := by rw [hN.out]; exact hjk
                have hjt : j < (prevOf pf pm ++ []).length := by rw [HL5.out]; omega
                obtain ⟨b1, o1, rfl, g1⟩ := HX5.out j hjf
                obtain ⟨b2, o2, rfl, g2⟩ := HY5.out j hjm
                obtain ⟨ge, rfl, e1, e2⟩ := HEC.out j hjt
                have hge : (prevOf pf pm ++ [])[j] = FE.mk pf[j] pm[j] := by rw [List.getElem_append_left hjp]; exact HPG.out j hjp
                rw [hge] at e1 e2
                clear hge hjp hjt HEC HX5 HY5
                generalize pf[j] = x at *
                generalize pm[j] = y at *
                go_wp2
                go_quiet (fail)
                go_wp2
                go_roundg (k - (j + 1))
                case measure => omega
                case rel => exact ⟨j + 1, _, by omega, by go_num, rfl, rfl⟩
              · clear HEC HX5 HY5
                go_wp2
                exact hR.out _ _ ⟨rfl, (HB3.out.trans (HB5.out.mono HB3.out.size)).trans (Below.of_drewN' _)⟩

          | false =>
            have HN5 : Hid (newErr true text field = [FE.mk field msgBad]) := by show _ = _; simp [newErr, hrb]
            rw [HN5.out] at HE5
            clear hrb
            obtain ⟨eo, ecap, rfl, hec⟩ := HE5.out.cells
            have hE5 := cell_one HE5.out.ptr
            have HL5 : Hid ((prevOf pf pm ++ [FE.mk field msgBad]).length = k + 1) := by show _ = _; rw [List.length_append, hN.out]; rfl
            rw [HL5.out] at hE5
            have HEC := hid hec
            clear hec
            go_wp2
            go_loopg [20] k (fun g i wq => ∃ j q : Nat, j ≤ k ∧ i = .int .i64 j ∧ g = k - j ∧ wq = w5.drewN q)
            case atStart => exact ⟨0, 0, Nat.zero_le _, rfl, rfl, rfl⟩
            case round =>
              obtain ⟨j, q, hj, rfl, rfl, rfl⟩ := hrel
              by_cases hjk : j < k
              · have hjf : j < pf.length := by omega
                have hjm : j < pm.length := by omega
                have hjp : j < (prevOf pf pm).length := by rw [hN.out]; exact hjk
                have hjt : j < (prevOf pf pm ++ [FE.mk field msgBad]).length := by rw [HL5.out]; omega
                obtain ⟨b1, o1, rfl, g1⟩ := HX5.out j hjf
                obtain ⟨b2, o2, rfl, g2⟩ := HY5.out j hjm
                obtain ⟨ge, rfl, e1, e2⟩ := HEC.out j hjt
                have hge : (prevOf pf pm ++ [FE.mk field msgBad])[j] = FE.mk pf[j] pm[j] := by rw [List.getElem_append_left hjp]; exact HPG.out j hjp
                rw [hge] at e1 e2
                clear hge hjp hjt HEC HX5 HY5
                generalize pf[j] = x at *
                generalize pm[j] = y at *
                go_wp2
                go_quiet (fail)
                go_wp2
                go_roundg (k - (j + 1))
                case measure => omega
                case rel => exact ⟨j + 1, _, by omega, by go_num, rfl, rfl⟩
              · obtain rfl : j = k := by omega
                have hjt : j < (prevOf pf pm ++ [FE.mk field msgBad]).length := by rw [HL5.out]; omega
                obtain ⟨ge, rfl, e1, e2⟩ := HEC.out j hjt
                have hge : (prevOf pf pm ++ [FE.mk field msgBad])[j] = FE.mk field msgBad := by
                  rw [List.getElem_append_right (by rw [hN.out]; omega)]
                  simp
                rw [hge] at e1 e2
                clear hge hjt HEC HX5 HY5
                go_wp2
                exact hR.out _ _ ⟨rfl, (HB3.out.trans (HB5.out.mono HB3.out.size)).trans (Below.of_drewN' _)⟩


end Go.Proofs.Qxb6600663a
