/-
  THE WALK OF processes (17).
-/
import Derived.Test.Qxb6600401aProcs
namespace Go.Proofs.Qxb6600401a
open Go.RowKit

theorem RcAt.cellsIn {w w' : World} {P : Nat → Prop} {b o : Nat} {e : Ev} (h : RcAt w P b o e) (hB : Below w.heap.size w w') :
    ∃ ta tc, StrsAt w P (.slice ta e.tr.length tc) e.nl e.tr ∧ w'.cell? ⟨b, o, none⟩ = some (.int .i64 e.t) ∧ w'.cell? ⟨b, o + 1, none⟩ = some (.int .i64 e.proc) ∧ w'.cell? ⟨b, o + 2, none⟩ = some (.string e.name) ∧
      w'.cell? ⟨b, o + 3, none⟩ = some (.string e.kind) ∧ w'.cell? ⟨b, o + 4, none⟩ = some (.int .i64 0) ∧ w'.cell? ⟨b, o + 5, none⟩ = some (.int .i64 0) ∧ w'.cell? ⟨b, o + 6, none⟩ = some (.string ⟨#[]⟩) ∧ w'.cell? ⟨b, o + 7, none⟩ = some (.int .i64 0) ∧
      w'.cell? ⟨b, o + 8, none⟩ = some (.slice ta e.tr.length tc) ∧ w'.cell? ⟨b, o + 9, none⟩ = some (.pointer none) ∧ w'.cell? ⟨b, o + 10, none⟩ = some (.bool e.unst) ∧ w'.cell? ⟨b, o + 11, none⟩ = some (.int .i64 0) ∧ w'.cell? ⟨b, o + 12, none⟩ = some (.string ⟨#[]⟩) := by
  obtain ⟨v, hr0, hs⟩ := h
  have hr := rangeAt_below hr0 hB
  obtain ⟨ao, c, rfl, _⟩ := id hs
  exact ⟨ao, c, hs, hr 0 _ rfl, hr 1 _ rfl, hr 2 _ rfl, hr 3 _ rfl, hr 4 _ rfl, hr 5 _ rfl, hr 6 _ rfl, hr 7 _ rfl, hr 8 _ rfl, hr 9 _ rfl, hr 10 _ rfl, hr 11 _ rfl, hr 12 _ rfl⟩

theorem rt_close {w : World} {n : Nat} {es : List Ev} {k : Nat} {pr pr' : Nat → Pr} {W : World} {x : Ev} {p : Nat} (HT : Hid (∀ i, prOf (es.take (k + 1)) i = hear i (pr i) x)) (he : (x.kind.toList == endK) = false) (hp : x.proc = (p : Int) + 1)
    (h : RT w n pr' W) (h1 : ∀ i, i ≠ p → pr' i = pr i) (h2 : pr' p = stepPr (pr p) x) : RT w n (prOf (es.take (k + 1))) W :=
  h.congr fun i _ => by rw [HT.out]; exact hear_of he hp h1 h2 i


set_option maxRecDepth 100000 in
set_option maxHeartbeats 4000000 in
theorem processes_any (n : Nat) (b : Nat) (es : List Ev) (cap : Nat) (w : World) (hn : n ≤ 65536) (hl : es.length ≤ 20000) (hin : ∀ i (h : i < es.length), InRange n es[i])
    (hev : ∀ i (h : i < es.length), RcAt w (fun _ => True) b (i * 13) es[i]) :
    Calls Try.prog 17 #[.int .i64 n, .slice (some ⟨b, 0, none⟩) es.length cap] w fun e w' => e = .returned (.slice (some ⟨w.heap.size, 0, none⟩) n n) ∧ RT w n (prOf es) w' := by
  refine hideR fun R' hR => ?_
  have mk45 := make45 n (by omega)
  have hI : RT w n (prOf (es.take 0)) _ := ⟨(Below.refl _ _).alloc (Nat.le_refl _) _, pinv_made 48 w n⟩
  generalize ZRow #[.string ⟨#[]⟩, .bool false, .bool false, .bool false, .bool false, .slice none 0 0, .int .i64 0] (n * 7) = c0 at mk45 hI
  go_enter Try.func17, Try.ntmps17
  go_wp2
  clear mk45
  go_loopg [13] es.length (fun g i wr => ∃ k : Nat, k ≤ es.length ∧ i = .int .i64 k ∧ g = es.length - k ∧ RT w n (prOf (es.take k)) wr)
  case atStart => exact ⟨0, Nat.zero_le _, rfl, rfl, hI⟩
  case round =>
    clear hI
    obtain ⟨k, hk, rfl, rfl, hI⟩ := hrel
    by_cases hlt : k < es.length
    · have he := hev k hlt
      have hr := hin k hlt
      clear hev hin
      have HI := (show Hid (RT w n (prOf (es.take k)) wr) from hI)
      have HT := (show Hid _ from fun i => prOf_take_succ es k i hlt)
      have hsz := hI.tab.own.lt
      clear hI
      generalize es[k] = x at *
      generalize prOf (es.take k) = pr at *
      obtain ⟨ta, tc, hts, h0, h1, h2, h3, h4, h5, h6, h7, h8, h9, h10, h11, h12⟩ := he.cellsIn HI.out.below
      clear he
      have HS := (show Hid _ from hts)
      clear hts
      by_cases hend : (x.kind.toList == endK) = true
      · have HR := (show Hid (InRange n x) from hr)
        clear hr
        go_wp2
        go_roundg (es.length - (k + 1))
        case measure => omega
        case rel => exact ⟨k + 1, by omega, by go_num, rfl, (HI.out.alloc _).congr fun i _ => by rw [HT.out]; unfold hear; rw [if_pos hend]⟩
      have hend' : (x.kind.toList == endK) = false := by simpa using hend
      have hr' := hr (by simpa using hend)
      obtain ⟨p, hp⟩ : ∃ p : Nat, x.proc = (p : Int) + 1 := ⟨(x.proc - 1).toNat, by omega⟩
      have hpn : p < n := by omega
      clear hr hr' hend
      rw [hp] at h1
      have HP := (show Hid _ from hp)
      clear hp
      obtain ⟨pv, c0, c1, c2, c3, c4, c5, c6, hfr⟩ := HI.out.tab.cells hpn
      obtain ⟨q, hq⟩ : ∃ q, Hid (pr p = q) := ⟨_, rfl⟩
      rw [hq.out] at c0 c1 c2 c3 c4 c6
      by_cases hnm : (!x.name.toList.isEmpty) = true
      · by_cases kd : (x.kind.toList == [100, 101, 99, 105, 100, 101]) = true
        · go_wp2
          go_roundg (es.length - (k + 1))
          case measure => omega
          case rel => exact ⟨k + 1, by omega, by go_num, rfl, rt_close HT hend' HP.out (((HI.out.setName hpn x.name).setDecided hpn true).alloc _) (fun i hi => by simp [upd, hi]) (by simp [upd, stepPr, stepName, stepKind, hnm, kd])⟩
        replace kd : (x.kind.toList == [100, 101, 99, 105, 100, 101]) = false := by simpa using kd
        by_cases kc : (x.kind.toList == [99, 114, 97, 115, 104]) = true
        · by_cases hqu : q.unst = true
          · go_wp2
            go_roundg (es.length - (k + 1))
            case measure => omega
            case rel => exact ⟨k + 1, by omega, by go_num, rfl, rt_close HT hend' HP.out ((((HI.out.setName hpn x.name).setDown hpn true).setUnst hpn true).alloc _) (fun i hi => by simp [upd, hi]) (by simp [upd, stepPr, stepName, stepKind, hnm, kd, kc, hq.out, hqu])⟩
          · go_wp2
            go_roundg (es.length - (k + 1))
            case measure => omega
            case rel => exact ⟨k + 1, by omega, by go_num, rfl, rt_close HT hend' HP.out ((((HI.out.setName hpn x.name).setDown hpn true).setUnst hpn x.unst).alloc _) (fun i hi => by simp [upd, hi]) (by simp [upd, stepPr, stepName, stepKind, hnm, kd, kc, hq.out, hqu])⟩
        replace kc : (x.kind.toList == [99, 114, 97, 115, 104]) = false := by simpa using kc
        by_cases kr : (x.kind.toList == [114, 101, 99, 111, 118, 101, 114]) = true
        · go_wp2
          go_roundg (es.length - (k + 1))
          case measure => omega
          case rel => exact ⟨k + 1, by omega, by go_num, rfl, rt_close HT hend' HP.out ((((HI.out.setName hpn x.name).setDown hpn false).setDecided hpn false).alloc _) (fun i hi => by simp [upd, hi]) (by simp [upd, stepPr, stepName, stepKind, hnm, kd, kc, kr])⟩
        replace kr : (x.kind.toList == [114, 101, 99, 111, 118, 101, 114]) = false := by simpa using kr
        by_cases kx : (x.kind.toList == [101, 120, 105, 116]) = true
        · go_wp2
          go_roundg (es.length - (k + 1))
          case measure => omega
          case rel => exact ⟨k + 1, by omega, by go_num, rfl, rt_close HT hend' HP.out (((HI.out.setName hpn x.name).setExited hpn true).alloc _) (fun i hi => by simp [upd, hi]) (by simp [upd, stepPr, stepName, stepKind, hnm, kd, kc, kr, kx])⟩
        replace kx : (x.kind.toList == [101, 120, 105, 116]) = false := by simpa using kx
        by_cases kt : (x.kind.toList == [100, 101, 116, 101, 99, 116, 111, 114]) = true
        · go_wp2
          go_region
          all_goals (try go_wp2)
          go_roundg (es.length - (k + 1))
          case measure => omega
          case rel => exact ⟨k + 1, by omega, by go_num, rfl, rt_close HT hend' HP.out (((((HI.out.setName hpn x.name).setOut hpn _ _ _ HS.out).setSince hpn x.t).alloc _).drew) (fun i hi => by simp [upd, hi]) (by simp [upd, stepPr, stepName, stepKind, hnm, kd, kc, kr, kx, kt])⟩
        replace kt : (x.kind.toList == [100, 101, 116, 101, 99, 116, 111, 114]) = false := by simpa using kt
        go_wp2
        go_roundg (es.length - (k + 1))
        case measure => omega
        case rel => exact ⟨k + 1, by omega, by go_num, rfl, rt_close HT hend' HP.out ((HI.out.setName hpn x.name).alloc _) (fun i hi => by simp [upd, hi]) (by simp [upd, stepPr, stepName, stepKind, hnm, kd, kc, kr, kx, kt])⟩
      · replace hnm : (!x.name.toList.isEmpty) = false := by simpa using hnm
        by_cases kd : (x.kind.toList == [100, 101, 99, 105, 100, 101]) = true
        · go_wp2
          go_roundg (es.length - (k + 1))
          case measure => omega
          case rel => exact ⟨k + 1, by omega, by go_num, rfl, rt_close HT hend' HP.out ((HI.out.setDecided hpn true).alloc _) (fun i hi => by simp [upd, hi]) (by simp [upd, stepPr, stepName, stepKind, hnm, kd])⟩
        replace kd : (x.kind.toList == [100, 101, 99, 105, 100, 101]) = false := by simpa using kd
        by_cases kc : (x.kind.toList == [99, 114, 97, 115, 104]) = true
        · by_cases hqu : q.unst = true
          · go_wp2
            go_roundg (es.length - (k + 1))
            case measure => omega
            case rel => exact ⟨k + 1, by omega, by go_num, rfl, rt_close HT hend' HP.out (((HI.out.setDown hpn true).setUnst hpn true).alloc _) (fun i hi => by simp [upd, hi]) (by simp [upd, stepPr, stepName, stepKind, hnm, kd, kc, hq.out, hqu])⟩
          · go_wp2
            go_roundg (es.length - (k + 1))
            case measure => omega
            case rel => exact ⟨k + 1, by omega, by go_num, rfl, rt_close HT hend' HP.out (((HI.out.setDown hpn true).setUnst hpn x.unst).alloc _) (fun i hi => by simp [upd, hi]) (by simp [upd, stepPr, stepName, stepKind, hnm, kd, kc, hq.out, hqu])⟩
        replace kc : (x.kind.toList == [99, 114, 97, 115, 104]) = false := by simpa using kc
        by_cases kr : (x.kind.toList == [114, 101, 99, 111, 118, 101, 114]) = true
        · go_wp2
          go_roundg (es.length - (k + 1))
          case measure => omega
          case rel => exact ⟨k + 1, by omega, by go_num, rfl, rt_close HT hend' HP.out (((HI.out.setDown hpn false).setDecided hpn false).alloc _) (fun i hi => by simp [upd, hi]) (by simp [upd, stepPr, stepName, stepKind, hnm, kd, kc, kr])⟩
        replace kr : (x.kind.toList == [114, 101, 99, 111, 118, 101, 114]) = false := by simpa using kr
        by_cases kx : (x.kind.toList == [101, 120, 105, 116]) = true
        · go_wp2
          go_roundg (es.length - (k + 1))
          case measure => omega
          case rel => exact ⟨k + 1, by omega, by go_num, rfl, rt_close HT hend' HP.out ((HI.out.setExited hpn true).alloc _) (fun i hi => by simp [upd, hi]) (by simp [upd, stepPr, stepName, stepKind, hnm, kd, kc, kr, kx])⟩
        replace kx : (x.kind.toList == [101, 120, 105, 116]) = false := by simpa using kx
        by_cases kt : (x.kind.toList == [100, 101, 116, 101, 99, 116, 111, 114]) = true
        · go_wp2
          go_region
          all_goals (try go_wp2)
          go_roundg (es.length - (k + 1))
          case measure => omega
          case rel => exact ⟨k + 1, by omega, by go_num, rfl, rt_close HT hend' HP.out ((((HI.out.setOut hpn _ _ _ HS.out).setSince hpn x.t).alloc _).drew) (fun i hi => by simp [upd, hi]) (by simp [upd, stepPr, stepName, stepKind, hnm, kd, kc, kr, kx, kt])⟩
        replace kt : (x.kind.toList == [100, 101, 116, 101, 99, 116, 111, 114]) = false := by simpa using kt
        go_wp2
        go_roundg (es.length - (k + 1))
        case measure => omega
        case rel => exact ⟨k + 1, by omega, by go_num, rfl, rt_close HT hend' HP.out (HI.out.alloc _) (fun _ _ => rfl) (by simp [stepPr, stepName, stepKind, hnm, kd, kc, kr, kx, kt])⟩
    · clear hev hin
      obtain rfl : k = es.length := by omega
      rw [List.take_length] at hI
      have HI := (show Hid _ from hI)
      clear hI
      go_wp2
      exact hR.out _ _ ⟨rfl, HI.out⟩
end Go.Proofs.Qxb6600401a
