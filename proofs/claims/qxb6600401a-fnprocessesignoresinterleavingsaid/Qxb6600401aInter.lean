/-
  THE WALK OF THE LAW FnProcessesIgnoresInterleaving (4).
-/
import Derived.Test.Qxb6600401aInterParts
namespace Go.Proofs.Qxb6600401a
open Go.RowKit

set_option maxRecDepth 100000 in
set_option maxHeartbeats 4000000 in
theorem inter_walk (n : Int) (hn64 : -9223372036854775808 ≤ n ∧ n ≤ 9223372036854775807) (ao : Option Addr) (es : List Ev) (cap : Nat) (w : World) (hnil : ao = none → es = []) (hl : es.length ≤ maxLen)
    (hev : EvsAt w (fun _ => True) ao es) :
    Calls Try.prog 4 #[.int .i64 n, .slice ao es.length cap] w fun e w' => e = .returned (.bool true) ∧ Below w.heap.size w w' := by
  refine hideR fun R' hR => ?_
  have HB := hid (bytes14 n ao _ es cap w hev)
  have HT := hid (tooBig_any ao _ es cap w hev)
  have HE := hid (hev)
  have HL := hid (hl)
  have HN := hid (hnil)
  clear hev hl hnil
  go_enter Try.func4, Try.ntmps4
  go_wp2_with fail
  refine HB.out.mono ?_
  rintro e w1 ⟨r, rfl, rfl⟩
  clear HB
  cases r with
  | false =>
    go_wp2
    exact hR.out _ _ ⟨rfl, Below.refl _ _⟩
  | true =>
  go_wp2_with fail
  refine HT.out.mono ?_
  rintro e w2 ⟨r, rfl, ⟨q, rfl⟩, hbig⟩
  clear HT
  cases r with
  | true =>
    go_wp2
    exact hR.out _ _ ⟨rfl, Below.of_drewN _⟩
  | false =>
  obtain ⟨hl1, hm⟩ := hbig rfl
  clear hbig
  have HM := hid (hm)
  clear hm
  by_cases hn0 : n < 0
  · go_wp2
    exact hR.out _ _ ⟨rfl, Below.of_drewN _⟩
  by_cases hn1 : 65536 < n
  · go_wp2
    exact hR.out _ _ ⟨rfl, Below.of_drewN _⟩
  obtain ⟨N, rfl⟩ : ∃ N : Nat, n = (N : Int) := ⟨n.toNat, by omega⟩
  clear hn64
  have hN : N ≤ 65536 := by omega
  clear hn0 hn1
  go_wp2_with fail
  refine (procs_any (N : Int) ao _ es cap (w1.drewN q) HL.out (HE.out.below (Below.of_drewN _))).mono ?_
  rintro e w2 ⟨r, rfl, rfl, hr⟩
  cases r with
  | false =>
    go_wp2
    exact hR.out _ _ ⟨rfl, Below.of_drewN _⟩
  | true =>
  have HR := hid (hr rfl)
  clear hr
  go_wp2_with fail
  refine (copy_any ao _ es cap (w1.drewN q) HN.out hl1 HM.out (HE.out.below (Below.of_drewN _))).mono ?_
  rintro e w3 ⟨ao', rfl, _, hev', hbel⟩
  have HB3 : Hid (Below w1.heap.size w1 w3) := (Below.of_drewN q).trans hbel
  have HE3 := hid (hev')
  clear hev' hbel HE HN HL
  have mk40 := make40 (N + 1) (by omega)
  simp only [Int.natCast_add, Int.natCast_one] at mk40
  have hC := intRow_zero (N + 1)
  generalize ZRow #[.int .i64 0] ((N + 1) * 1) = c0 at mk40 hC
  go_wp2
  clear mk40
  go_loopg [6] es.length (fun g i wr => ∃ k : Nat, ∃ c : Array Value, k ≤ es.length ∧ i = .int .i64 k ∧ g = es.length - k ∧ IntRow c (N + 1) (fun q => (filt (es.take k) q).length) ∧ wr = w3.alloc (.cells c 3))
  case atStart => exact ⟨0, c0, Nat.zero_le _, rfl, rfl, hC.congr (fun i _ => by simp [filt]), rfl⟩
  case round =>
    clear hC
    obtain ⟨k, c, hk, rfl, rfl, hC, rfl⟩ := hrel
    by_cases hlt : k < es.length
    · obtain ⟨b, o, rfl, he⟩ := HE3.out k hlt
      have hr := HR.out k hlt
      have HS := hid (fun p => counts_step (p := p) hlt hC)
      have HX := hid (counts_end hlt hC)
      have HCC := hid hC
      clear hC
      generalize es[k] = x at *
      obtain ⟨to, tc, _, _, _, h0, h1, h2, h3, h4, h5⟩ := he.cells
      have hb3 := World.block_lt_of_cell? _ _ h0
      clear he
      by_cases hend : (x.kind.toList == endK) = true
      · have HRR := hid hr
        clear hr
        go_wp2
        go_roundg (es.length - (k + 1))
        case measure => omega
        case rel => exact ⟨k + 1, c, by omega, by go_num, rfl, HX.out hend, rfl⟩
      · have hend' : (x.kind.toList == endK) = false := by simpa using hend
        have hr' := hr (by simpa using hend)
        obtain ⟨p, hp⟩ : ∃ p : Nat, x.proc = (p : Int) := ⟨x.proc.toNat, by omega⟩
        have hpn : p ≤ N := by omega
        have hcp : c[p]? = some (.int .i64 ((filt (es.take k) p).length : Nat)) := HCC.out.2 p (by omega)
        have hfl := filt_length_le (es.take k) p
        have hfl2 : (es.take k).length ≤ es.length := List.length_take_le' _ _
        have HN2 := hid (HS.out p hend' hp)
        clear hr hr' hend HS HX HCC
        rw [hp] at h1
        clear hp
        generalize (filt (es.take k) p).length = m at *
        go_wp2
        go_roundg (es.length - (k + 1))
        case measure => omega
        case rel => exact ⟨k + 1, _, by omega, by go_num, rfl, HN2.out, rfl⟩
    · obtain rfl : k = es.length := by omega
      rw [List.take_length] at hC
      have HC := hid hC
      clear hC
      have mk40 := make40 (N + 1) (by omega)
      simp only [Int.natCast_add, Int.natCast_one] at mk40
      have hD := intRow_zero (N + 1)
      generalize ZRow #[.int .i64 0] ((N + 1) * 1) = d0 at mk40 hD
      go_wp2
      clear mk40
      go_loopg [8, 9] N (fun g z i wr => ∃ l : Nat, ∃ d : Array Value, 1 ≤ l ∧ l ≤ N + 1 ∧ z = .int .i64 (S es l) ∧ i = .int .i64 l ∧ g = N + 1 - l ∧ StartRow es N d l ∧ wr = (w3.alloc (.cells c 3)).alloc (.cells d 3))
      case atStart => exact ⟨1, d0, by omega, by omega, by rw [S_one HR.out]; rfl, rfl, rfl, ⟨hD.1, fun p h1 h2 => by omega⟩, rfl⟩
      case round =>
        clear hD
        obtain ⟨l, d, hl0, hlN, rfl, rfl, rfl, hD, rfl⟩ := hrel
        have hS := S_total es l
        by_cases hlt : l ≤ N
        · have hcl : c[l]? = some (.int .i64 ((filt es l).length : Nat)) := HC.out.2 l (by omega)
          have hfl := filt_length_le es l
          obtain ⟨old, hold⟩ := hD.get (show l ≤ N from hlt)
          have HD := hid (hD.step hlt)
          have HSS : Hid (S es (l + 1) = S es l + (filt es l).length) := rfl
          clear hD
          generalize S es l = sl at *
          generalize (filt es l).length = m at *
          go_wp2
          go_roundg (N + 1 - (l + 1))
          case measure => omega
          case rel => exact ⟨l + 1, _, by omega, by omega, by rw [HSS.out]; go_num, by go_num, rfl, HD.out, rfl⟩
        · obtain rfl : l = N + 1 := by omega
          have HD := hid hD
          clear hD
          have hG := length_grp es (N + 1)
          have mk22 := make22 (grp es (N + 1)).length (by omega)
          have hZ := size_ZRow #[.int .i64 0, .int .i64 0, .string ⟨#[]⟩, .string ⟨#[]⟩, .bool false, .slice none 0 0] ((grp es (N + 1)).length * 6)
          generalize ZRow #[.int .i64 0, .int .i64 0, .string ⟨#[]⟩, .string ⟨#[]⟩, .bool false, .slice none 0 0] ((grp es (N + 1)).length * 6) = g0 at mk22 hZ
          rw [hG] at mk22
          have HG := hid hG
          have HZ := hid hZ
          clear hG hZ
          go_wp2
          clear mk22
          have hI := ginv_start (w3 := w3) (c := c) HD.out (by rw [HZ.out, HG.out])
          go_loopg [11] es.length (fun g i wr => ∃ k : Nat, k ≤ es.length ∧ i = .int .i64 k ∧ g = es.length - k ∧ GInv w3 es N (w3.heap.size + 1) (w3.heap.size + 2) k wr)
          case atStart => exact ⟨0, Nat.zero_le _, rfl, rfl, hI⟩
          case round =>
            clear hI
            obtain ⟨k, hk, rfl, rfl, hI⟩ := hrel
            by_cases hlt : k < es.length
            · obtain ⟨b, o, rfl, he⟩ := HE3.out k hlt
              have hr := HR.out k hlt
              have HX := hid (hI.skip hlt)
              have HI := hid hI
              have HSt := hid (fun p => hI.step (p := p) hlt)
              clear hI
              obtain ⟨v0, hv0⟩ : ∃ v0, Hid (w3.rangeAt b (o + k * 6) (evc es[k] v0) ∧ StrsAt w3 (fun _ => True) v0 (es[k]).nl (es[k]).tr) := he
              have HF := hid (fun p => filt_take_lt es k p hlt)
              generalize es[k] = x at *
              obtain ⟨to, tc, rfl⟩ : ∃ to tc, v0 = .slice to x.tr.length tc := by obtain ⟨ao, c, e, _⟩ := hv0.out.2; exact ⟨ao, c, e⟩
              have hra := rangeAt_below hv0.out.1 HI.out.below
              have h0 : wr.cell? ⟨b, o + k * 6, none⟩ = _ := hra 0 _ rfl
              have h1 := hra 1 _ rfl
              have h2 := hra 2 _ rfl
              have h3 := hra 3 _ rfl
              have h4 := hra 4 _ rfl
              have h5 := hra 5 _ rfl
              clear hra
              by_cases hend : (x.kind.toList == endK) = true
              · have HRR := hid hr
                clear hr
                go_wp2
                go_roundg (es.length - (k + 1))
                case measure => omega
                case rel => exact ⟨k + 1, by omega, by go_num, rfl, HX.out hend⟩
              · have hend' : (x.kind.toList == endK) = false := by simpa using hend
                have hr' := hr (by simpa using hend)
                obtain ⟨p, hp⟩ : ∃ p : Nat, x.proc = (p : Int) := ⟨x.proc.toNat, by omega⟩
                have hp1 : 1 ≤ p := by omega
                have hpn : p ≤ N := by omega
                have hst := HI.out.start p hp1 hpn
                have hfl := HF.out p (by rw [own_iff hend' hp]; simp)
                have hSN := S_lt es (show p < N + 1 by omega)
                have HN2 := hid (HSt.out p hend' hp hp1 hpn (by omega) (by omega) (by omega) _ hv0.out.2)
                have HTH : Hid (wr.there (w3.heap.size + 2) ((S es p + (filt (es.take k) p).length) * 6) 6) := HI.out.ownG.there (by omega)
                have hfr : ∀ j, wr.frozen? ⟨w3.heap.size + 1, j, none⟩ = false := by obtain ⟨cc, hb, _⟩ := HI.out.ownD; intro j; simp [World.frozen?, hb]
                clear hr hr' hend HX HSt HF
                rw [hp] at h1
                have HP := hid hp
                clear hp
                have hx : S es p + (filt (es.take k) p).length < S es (N + 1) := by omega
                clear hfl hSN
                generalize S es p + (filt (es.take k) p).length = idx at *
                go_wp2
                have hpi : (p : Int) < (N : Int) + 1 := by omega
                have hpi' : p < N + 1 := by omega
                go_still_tail 10, Try.mixed
                refine store_ev (.tmp 105) (.tmp 104) ?_
                refine ⟨w3.heap.size + 2, idx * 6, x, to, x.tr.length, tc, rfl, (by show Value.agg #[.int .i64 x.t, .int .i64 (p : Int), .string x.name, .string x.kind, .bool x.unst, .slice to x.tr.length tc] = _; rw [← HP.out]), HTH.out, ?_⟩
                have hst' : ((wr.drew).setCells (w3.heap.size + 2) (idx * 6) (evc x (.slice to x.tr.length tc))).cell? ⟨w3.heap.size + 1, p, none⟩ = some (.int .i64 idx) := by
                  rw [World.cell?_setCells_out _ _ _ _ _ (fun e => by simp at e)]; exact hst
                have hfr' : ((wr.drew).setCells (w3.heap.size + 2) (idx * 6) (evc x (.slice to x.tr.length tc))).frozen? ⟨w3.heap.size + 1, p, none⟩ = false := by
                  rw [World.frozen?_setCells]; exact hfr p
                change wpList Try.prog _ _ _ _ ((wr.drew).setCells (w3.heap.size + 2) (idx * 6) (evc x (.slice to x.tr.length tc)))
                generalize (wr.drew).setCells (w3.heap.size + 2) (idx * 6) (evc x (.slice to x.tr.length tc)) = W5 at *
                clear hst hfr HTH
                go_wp2
                go_roundg (es.length - (k + 1))
                case measure => omega
                case rel => exact ⟨k + 1, by omega, by go_num, rfl, HN2.out⟩
            · obtain rfl : k = es.length := by omega
              have HI := hid hI
              clear hI
              go_wp2_with fail
              refine (toRec_any ao' _ es es.length wr (by omega) HM.out (HE3.out.below HI.out.below)).mono ?_
              rintro e w5 ⟨rfl, hb5, hr5⟩
              have HB5 := hid hb5
              have HR5 := hid hr5
              clear hb5 hr5
              go_wp2_with fail
              refine (zzprocs_any N wr.heap.size es es.length w5 hN (by omega) HR.out HR5.out).mono ?_
              rintro e w6 ⟨Ba, rfl, hb6, hp6⟩
              have HB6 := hid hb6
              have HP6 := hid hp6
              clear hb6 hp6 HR5
              go_wp2_with fail
              refine (toRec_len (some ⟨w3.heap.size + 1 + 1, 0, none⟩) _ (grp es (N + 1)) (S es (N + 1)) (S es (N + 1)) w6 HG.out (by omega) (all_grp HM.out _)
                ((ginv_done HR.out HI.out).below (HB5.out.trans (HB6.out.mono HB5.out.size)))).mono ?_
              rintro e w7 ⟨rfl, hb7, hr7⟩
              have HB7 := hid hb7
              have HR7 := hid hr7
              clear hb7 hr7
              go_wp2_with fail
              refine (zzprocs_len N w6.heap.size (grp es (N + 1)) (S es (N + 1)) (S es (N + 1)) w7 HG.out hN (by omega) (all_grp HR.out _) HR7.out).mono ?_
              rintro e w8 ⟨Bb, rfl, hb8, hp8⟩
              have HB8 := hid hb8
              have HP8 := hid (hp8.congr (fun i hi => prOf_grp es N i hi))
              clear hb8 hp8 HR7
              go_wp2
              have HO := hid (prOf_out HM.out)
              have HA6 : Hid (Below w6.heap.size w6 w8) := HB7.out.trans (HB8.out.mono HB7.out.size)
              have HA1 : Hid (Below w1.heap.size w1 w8) := HB3.out.trans ((HI.out.below.trans ((HB5.out.trans ((HB6.out.trans (HA6.out.mono HB6.out.size)).mono HB5.out.size)).mono HI.out.below.size)).mono HB3.out.size)
              clear HI HG HZ HD HC HM HR HE3 HB3
              generalize prOf es = pr at *
              go_loopg [15] N (fun g i wq => ∃ k : Nat, k ≤ N ∧ i = .int .i64 k ∧ g = N - k ∧ Below w8.heap.size w8 wq)
              case atStart => exact ⟨0, Nat.zero_le _, rfl, rfl, Below.refl _ _⟩
              case round =>
                obtain ⟨k, hk, rfl, rfl, hq⟩ := hrel
                by_cases hlt : k < N
                · obtain ⟨ra, ca, sa, a0, a1, a2, a3, a4, a5, a6⟩ := HP6.out.late HB6.out (HA6.out.trans (hq.mono HA6.out.size)) hlt
                  obtain ⟨rb, cb, sb, b0, b1, b2, b3, b4, b5, b6⟩ := HP8.out.late HB8.out hq hlt
                  have HSa := hid sa
                  have HSb := hid sb
                  have HOk := hid (HO.out k)
                  have HQ := hid hq
                  clear sa sb hq HO HP6 HP8
                  generalize pr k = q at *
                  go_wp2
                  go_still_tail 8, Try.mixed
                  go_wp2_with fail
                  refine (same_any q (.slice ra q.out.length ca) (.slice rb q.out.length cb) _ HOk.out ?sA ?sB).mono ?_
                  case sA => exact HSa.out.below (Below.refl _ _).drew
                  case sB => exact HSb.out.below (Below.refl _ _).drew
                  rintro e w9 ⟨rfl, hb9⟩
                  have HB9 := hid hb9
                  clear hb9
                  go_wp2
                  go_roundg (N - (k + 1))
                  case measure => omega
                  case rel => exact ⟨k + 1, by omega, by go_num, rfl, HQ.out.drew.trans (HB9.out.mono HQ.out.size)⟩
                · have HQ := hid hq
                  clear hq
                  go_wp2
                  exact hR.out _ _ ⟨rfl, HA1.out.trans (HQ.out.mono HA1.out.size)⟩
end Go.Proofs.Qxb6600401a
