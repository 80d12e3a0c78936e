/-
  THE WALK OF zzModel (12): the backward model.
-/
import Derived.Test.Qxb6600401aModelParts
set_option linter.unusedSimpArgs false
namespace Go.Proofs.Qxb6600401a
open Go.RowKit

theorem Try.info39 : (Try.prog.info? 39).map (fun i => (i.zero, i.size, i.bytes)) = some (some (.agg #[.string ⟨#[]⟩, .bool false, .bool false, .bool false, .bool false, .slice none 0 0, .int .i64 0]), 7, 56) := by kernel_rfl
theorem Try.info4 : (Try.prog.info? 4).map (fun i => (i.zero, i.size, i.bytes)) = some (some (.bool false), 1, 1) := by kernel_rfl
theorem make30 (n : Nat) (h : n ≤ 1048576) (w : World) : (Instr.makeSlice 30 (.int .i64 n) (.int .i64 n)).run Try.prog w = .ok (.slice (some ⟨w.heap.size, 0, none⟩) n n) (w.alloc (.cells (ZRow #[.string ⟨#[]⟩, .bool false, .bool false, .bool false, .bool false, .slice none 0 0, .int .i64 0] (n * 7)) 39)) :=
  run_make_big (P := Try.prog) 30 39 _ 7 56 Try.underlying30 Try.info39 .i64 .i64 (n : Int) (by omega) (by omega) (by omega) w
theorem make55 (n : Nat) (h : n ≤ 1048576) (w : World) : (Instr.makeSlice 55 (.int .i64 n) (.int .i64 n)).run Try.prog w = .ok (.slice (some ⟨w.heap.size, 0, none⟩) n n) (w.alloc (.cells (ZRow #[.bool false] (n * 1)) 4)) :=
  run_make_big (P := Try.prog) 55 4 _ 1 1 Try.underlying55 Try.info4 .i64 .i64 (n : Int) (by omega) (by omega) (by omega) w

theorem EvAt.cellsIn {w w' : World} {P : Nat → Prop} {b o : Nat} {e : Ev} (h : EvAt w P b o e) (hB : Below w.heap.size w w') :
    ∃ ta tc, StrsAt w P (.slice ta e.tr.length tc) e.nl e.tr ∧ w'.cell? ⟨b, o, none⟩ = some (.int .i64 e.t) ∧ w'.cell? ⟨b, o + 1, none⟩ = some (.int .i64 e.proc) ∧ w'.cell? ⟨b, o + 2, none⟩ = some (.string e.name) ∧
      w'.cell? ⟨b, o + 3, none⟩ = some (.string e.kind) ∧ w'.cell? ⟨b, o + 4, none⟩ = some (.bool e.unst) ∧ w'.cell? ⟨b, o + 5, none⟩ = some (.slice ta e.tr.length tc) := by
  obtain ⟨v, hr0, hs⟩ := h
  have hr := rangeAt_below hr0 hB
  obtain ⟨ao, c, rfl, _⟩ := id hs
  exact ⟨ao, c, hs, hr 0 _ rfl, hr 1 _ rfl, hr 2 _ rfl, hr 3 _ rfl, hr 4 _ rfl, hr 5 _ rfl⟩

set_option maxRecDepth 100000 in
set_option maxHeartbeats 8000000 in
theorem model_any (n : Nat) (ao : Option Addr) (es : List Ev) (cap : Nat) (w : World) (hn : n ≤ 65536) (hl : es.length ≤ 20000) (hin : ∀ i (h : i < es.length), InRange n es[i])
    (hev : EvsAt w (fun _ => True) ao es) :
    Calls Try.prog 12 #[.int .i64 n, .slice ao es.length cap] w fun e w' => e = .returned (.slice (some ⟨w.heap.size, 0, none⟩) n n) ∧ BT w n (bkOf es) w' := by
  refine hideR fun R' hR => ?_
  have mk30 := make30 n (by omega)
  have mk55 := make55 n (by omega)
  have hI := bt_made w n
  generalize ZRow #[.string ⟨#[]⟩, .bool false, .bool false, .bool false, .bool false, .slice none 0 0, .int .i64 0] (n * 7) = c0 at mk30 hI
  generalize ZRow #[.bool false] (n * 1) = c1 at mk55 hI
  go_enter Try.func12, Try.ntmps12
  go_wp2
  clear mk30 mk55
  go_loopg [10] es.length (fun g i wr => ∃ k : Nat, k ≤ es.length ∧ i = .int .i64 ((k : Int) - 1) ∧ k = g ∧ BT w n (bkOf (es.drop k)) wr)
  case atStart => exact ⟨es.length, Nat.le_refl _, rfl, rfl, by rw [List.drop_length]; exact hI⟩
  case round =>
    clear hI
    obtain ⟨k, hk, rfl, rfl, hI⟩ := hrel
    cases k with
    | succ k =>
      have hlt : k < es.length := by omega
      have ek : (((k + 1 : Nat) : Int) - 1) = (k : Int) := by omega
      rw [ek]
      clear ek
      obtain ⟨b, o, rfl, he⟩ := hev k hlt
      have hr := hin k hlt
      clear hev hin
      have HI := hid hI
      have HT := hid (fun i => bkOf_drop es k i hlt)
      clear hI
      generalize es[k] = x at *
      generalize bkOf (es.drop (k + 1)) = bk at *
      obtain ⟨ta, tc, hts, h0, h1, h2, h3, h4, h5⟩ := he.cellsIn HI.out.below
      clear he
      have HS := hid hts
      clear hts
      have hsz : w.heap.size + 4 < wr.heap.size := HI.out.dt.own.lt
      by_cases hend : (x.kind.toList == endK) = true
      · have HRR := hid hr
        clear hr
        go_wp2
        go_roundg k
        case measure => omega
        case rel => exact ⟨k, by omega, by go_num, rfl, (HI.out.alloc _).congr fun i _ => by rw [HT.out]; unfold bHear; rw [if_pos hend]⟩
      have hend' : (x.kind.toList == endK) = false := by simpa using hend
      have hr' := hr (by simpa using hend)
      obtain ⟨p, hp⟩ : ∃ p : Nat, x.proc = (p : Int) + 1 := ⟨(x.proc - 1).toNat, by omega⟩
      have hpn : p < n := by omega
      clear hr hr' hend
      rw [hp] at h1
      have HP := hid hp
      clear hp
      obtain ⟨⟨pv, c0, c1, c2, c3, c4, c5, c6, hfr⟩, f1, f2, f3, f4, g1, g2, g3, g4, _⟩ := HI.out.cells hpn
      obtain ⟨q, hq⟩ : ∃ q, Hid (bk p = q) := ⟨_, rfl⟩
      rw [hq.out] at c0 c1 c2 c3 c4 c6 f1 f2 f3 f4
      have f2' : wr.cell? ⟨w.heap.size + 1 + 1, p, none⟩ = some (.bool q.lf) := f2
      have f3' : wr.cell? ⟨w.heap.size + 1 + 1 + 1, p, none⟩ = some (.bool q.rc) := f3
      have f4' : wr.cell? ⟨w.heap.size + 1 + 1 + 1 + 1, p, none⟩ = some (.bool q.dt) := f4
      have g2' : ∀ j, wr.frozen? ⟨w.heap.size + 1 + 1, j, none⟩ = false := g2
      have g3' : ∀ j, wr.frozen? ⟨w.heap.size + 1 + 1 + 1, j, none⟩ = false := g3
      have g4' : ∀ j, wr.frozen? ⟨w.heap.size + 1 + 1 + 1 + 1, j, none⟩ = false := g4
      have hs0 : w.heap.size < wr.heap.size := by omega
      have hs1 : w.heap.size + 1 < wr.heap.size := by omega
      have hs2 : w.heap.size + 1 + 1 < wr.heap.size := by omega
      have hs3 : w.heap.size + 1 + 1 + 1 < wr.heap.size := by omega
      have hs4 : w.heap.size + 1 + 1 + 1 + 1 < wr.heap.size := by omega
      clear f2 f3 f4 g2 g3 g4 hsz
      by_cases hnm : q.nm = true
      · by_cases kd : (x.kind.toList == [100, 101, 99, 105, 100, 101]) = true
        · by_cases hrc : q.rc = true
          · go_wp2
            go_roundg k
            case measure => omega
            case rel => exact ⟨k, by omega, by go_num, rfl, bt_close HT hend' HP.out (HI.out.alloc _) (fun _ _ => rfl) (by simp [updB, bStep, bName, bKind, bDecide, bLife, bUnst, bDet, hq.out, hnm, kd, hrc])⟩
          · replace hrc : q.rc = false := by simpa using hrc
            go_wp2
            go_roundg k
            case measure => omega
            case rel => exact ⟨k, by omega, by go_num, rfl, bt_close HT hend' HP.out ((HI.out.setDecided hpn true).alloc _) (fun i hi => by simp [updB, hi]) (by simp [updB, bStep, bName, bKind, bDecide, bLife, bUnst, bDet, hq.out, hnm, kd, hrc])⟩
        replace kd : (x.kind.toList == [100, 101, 99, 105, 100, 101]) = false := by simpa using kd
        by_cases kc : (x.kind.toList == [99, 114, 97, 115, 104]) = true
        · by_cases hlf : q.lf = true
          · by_cases hxu : x.unst = true
            · go_wp2
              go_roundg k
              case measure => omega
              case rel => exact ⟨k, by omega, by go_num, rfl, bt_close HT hend' HP.out ((HI.out.setUnst hpn true).alloc _) (fun i hi => by simp [updB, hi]) (by simp [updB, bStep, bName, bKind, bDecide, bLife, bUnst, bDet, hq.out, hnm, kd, kc, hlf, hxu])⟩
            · replace hxu : x.unst = false := by simpa using hxu
              go_wp2
              go_roundg k
              case measure => omega
              case rel => exact ⟨k, by omega, by go_num, rfl, bt_close HT hend' HP.out (HI.out.alloc _) (fun _ _ => rfl) (by simp [updB, bStep, bName, bKind, bDecide, bLife, bUnst, bDet, hq.out, hnm, kd, kc, hlf, hxu])⟩
          · replace hlf : q.lf = false := by simpa using hlf
            by_cases hxu : x.unst = true
            · go_wp2
              go_roundg k
              case measure => omega
              case rel => exact ⟨k, by omega, by go_num, rfl, bt_close HT hend' HP.out ((((HI.out.setDown hpn true).setLf hpn).setUnst hpn true).alloc _) (fun i hi => by simp [updB, hi]) (by simp [updB, bStep, bName, bKind, bDecide, bLife, bUnst, bDet, hq.out, hnm, kd, kc, hlf, hxu])⟩
            · replace hxu : x.unst = false := by simpa using hxu
              go_wp2
              go_roundg k
              case measure => omega
              case rel => exact ⟨k, by omega, by go_num, rfl, bt_close HT hend' HP.out (((HI.out.setDown hpn true).setLf hpn).alloc _) (fun i hi => by simp [updB, hi]) (by simp [updB, bStep, bName, bKind, bDecide, bLife, bUnst, bDet, hq.out, hnm, kd, kc, hlf, hxu])⟩
        replace kc : (x.kind.toList == [99, 114, 97, 115, 104]) = false := by simpa using kc
        by_cases kr : (x.kind.toList == [114, 101, 99, 111, 118, 101, 114]) = true
        · go_wp2
          go_roundg k
          case measure => omega
          case rel => exact ⟨k, by omega, by go_num, rfl, bt_close HT hend' HP.out (((HI.out.setLf hpn).setRc hpn).alloc _) (fun i hi => by simp [updB, hi]) (by simp [updB, bStep, bName, bKind, bDecide, bLife, bUnst, bDet, hq.out, hnm, kd, kc, kr])⟩
        replace kr : (x.kind.toList == [114, 101, 99, 111, 118, 101, 114]) = false := by simpa using kr
        by_cases kx : (x.kind.toList == [101, 120, 105, 116]) = true
        · go_wp2
          go_roundg k
          case measure => omega
          case rel => exact ⟨k, by omega, by go_num, rfl, bt_close HT hend' HP.out ((HI.out.setExited hpn true).alloc _) (fun i hi => by simp [updB, hi]) (by simp [updB, bStep, bName, bKind, bDecide, bLife, bUnst, bDet, hq.out, hnm, kd, kc, kr, kx])⟩
        replace kx : (x.kind.toList == [101, 120, 105, 116]) = false := by simpa using kx
        by_cases kt : (x.kind.toList == [100, 101, 116, 101, 99, 116, 111, 114]) = true
        · by_cases hdt : q.dt = true
          · go_wp2
            go_roundg k
            case measure => omega
            case rel => exact ⟨k, by omega, by go_num, rfl, bt_close HT hend' HP.out (HI.out.alloc _) (fun _ _ => rfl) (by simp [updB, bStep, bName, bKind, bDecide, bLife, bUnst, bDet, hq.out, hnm, kd, kc, kr, kx, kt, hdt])⟩
          · replace hdt : q.dt = false := by simpa using hdt
            go_wp2
            go_roundg k
            case measure => omega
            case rel => exact ⟨k, by omega, by go_num, rfl, bt_close HT hend' HP.out ((((HI.out.setOut hpn _ _ _ HS.out).setSince hpn x.t).setDt hpn).alloc _) (fun i hi => by simp [updB, hi]) (by simp [updB, bStep, bName, bKind, bDecide, bLife, bUnst, bDet, hq.out, hnm, kd, kc, kr, kx, kt, hdt])⟩
        replace kt : (x.kind.toList == [100, 101, 116, 101, 99, 116, 111, 114]) = false := by simpa using kt
        go_wp2
        go_roundg k
        case measure => omega
        case rel => exact ⟨k, by omega, by go_num, rfl, bt_close HT hend' HP.out (HI.out.alloc _) (fun _ _ => rfl) (by simp [updB, bStep, bName, bKind, bDecide, bLife, bUnst, bDet, hq.out, hnm, kd, kc, kr, kx, kt])⟩
      replace hnm : q.nm = false := by simpa using hnm
      by_cases hem : (!x.name.toList.isEmpty) = true
      · by_cases kd : (x.kind.toList == [100, 101, 99, 105, 100, 101]) = true
        · by_cases hrc : q.rc = true
          · go_wp2
            go_roundg k
            case measure => omega
            case rel => exact ⟨k, by omega, by go_num, rfl, bt_close HT hend' HP.out (((HI.out.setName hpn x.name).setNm hpn).alloc _) (fun i hi => by simp [updB, hi]) (by simp [updB, bStep, bName, bKind, bDecide, bLife, bUnst, bDet, hq.out, hnm, hem, kd, hrc])⟩
          · replace hrc : q.rc = false := by simpa using hrc
            go_wp2
            go_roundg k
            case measure => omega
            case rel => exact ⟨k, by omega, by go_num, rfl, bt_close HT hend' HP.out ((((HI.out.setName hpn x.name).setNm hpn).setDecided hpn true).alloc _) (fun i hi => by simp [updB, hi]) (by simp [updB, bStep, bName, bKind, bDecide, bLife, bUnst, bDet, hq.out, hnm, hem, kd, hrc])⟩
        replace kd : (x.kind.toList == [100, 101, 99, 105, 100, 101]) = false := by simpa using kd
        by_cases kc : (x.kind.toList == [99, 114, 97, 115, 104]) = true
        · by_cases hlf : q.lf = true
          · by_cases hxu : x.unst = true
            · go_wp2
              go_roundg k
              case measure => omega
              case rel => exact ⟨k, by omega, by go_num, rfl, bt_close HT hend' HP.out ((((HI.out.setName hpn x.name).setNm hpn).setUnst hpn true).alloc _) (fun i hi => by simp [updB, hi]) (by simp [updB, bStep, bName, bKind, bDecide, bLife, bUnst, bDet, hq.out, hnm, hem, kd, kc, hlf, hxu])⟩
            · replace hxu : x.unst = false := by simpa using hxu
              go_wp2
              go_roundg k
              case measure => omega
              case rel => exact ⟨k, by omega, by go_num, rfl, bt_close HT hend' HP.out (((HI.out.setName hpn x.name).setNm hpn).alloc _) (fun i hi => by simp [updB, hi]) (by simp [updB, bStep, bName, bKind, bDecide, bLife, bUnst, bDet, hq.out, hnm, hem, kd, kc, hlf, hxu])⟩
          · replace hlf : q.lf = false := by simpa using hlf
            by_cases hxu : x.unst = true
            · go_wp2
              go_roundg k
              case measure => omega
              case rel => exact ⟨k, by omega, by go_num, rfl, bt_close HT hend' HP.out ((((((HI.out.setName hpn x.name).setNm hpn).setDown hpn true).setLf hpn).setUnst hpn true).alloc _) (fun i hi => by simp [updB, hi]) (by simp [updB, bStep, bName, bKind, bDecide, bLife, bUnst, bDet, hq.out, hnm, hem, kd, kc, hlf, hxu])⟩
            · replace hxu : x.unst = false := by simpa using hxu
              go_wp2
              go_roundg k
              case measure => omega
              case rel => exact ⟨k, by omega, by go_num, rfl, bt_close HT hend' HP.out (((((HI.out.setName hpn x.name).setNm hpn).setDown hpn true).setLf hpn).alloc _) (fun i hi => by simp [updB, hi]) (by simp [updB, bStep, bName, bKind, bDecide, bLife, bUnst, bDet, hq.out, hnm, hem, kd, kc, hlf, hxu])⟩
        replace kc : (x.kind.toList == [99, 114, 97, 115, 104]) = false := by simpa using kc
        by_cases kr : (x.kind.toList == [114, 101, 99, 111, 118, 101, 114]) = true
        · go_wp2
          go_roundg k
          case measure => omega
          case rel => exact ⟨k, by omega, by go_num, rfl, bt_close HT hend' HP.out (((((HI.out.setName hpn x.name).setNm hpn).setLf hpn).setRc hpn).alloc _) (fun i hi => by simp [updB, hi]) (by simp [updB, bStep, bName, bKind, bDecide, bLife, bUnst, bDet, hq.out, hnm, hem, kd, kc, kr])⟩
        replace kr : (x.kind.toList == [114, 101, 99, 111, 118, 101, 114]) = false := by simpa using kr
        by_cases kx : (x.kind.toList == [101, 120, 105, 116]) = true
        · go_wp2
          go_roundg k
          case measure => omega
          case rel => exact ⟨k, by omega, by go_num, rfl, bt_close HT hend' HP.out ((((HI.out.setName hpn x.name).setNm hpn).setExited hpn true).alloc _) (fun i hi => by simp [updB, hi]) (by simp [updB, bStep, bName, bKind, bDecide, bLife, bUnst, bDet, hq.out, hnm, hem, kd, kc, kr, kx])⟩
        replace kx : (x.kind.toList == [101, 120, 105, 116]) = false := by simpa using kx
        by_cases kt : (x.kind.toList == [100, 101, 116, 101, 99, 116, 111, 114]) = true
        · by_cases hdt : q.dt = true
          · go_wp2
            go_roundg k
            case measure => omega
            case rel => exact ⟨k, by omega, by go_num, rfl, bt_close HT hend' HP.out (((HI.out.setName hpn x.name).setNm hpn).alloc _) (fun i hi => by simp [updB, hi]) (by simp [updB, bStep, bName, bKind, bDecide, bLife, bUnst, bDet, hq.out, hnm, hem, kd, kc, kr, kx, kt, hdt])⟩
          · replace hdt : q.dt = false := by simpa using hdt
            go_wp2
            go_roundg k
            case measure => omega
            case rel => exact ⟨k, by omega, by go_num, rfl, bt_close HT hend' HP.out ((((((HI.out.setName hpn x.name).setNm hpn).setOut hpn _ _ _ HS.out).setSince hpn x.t).setDt hpn).alloc _) (fun i hi => by simp [updB, hi]) (by simp [updB, bStep, bName, bKind, bDecide, bLife, bUnst, bDet, hq.out, hnm, hem, kd, kc, kr, kx, kt, hdt])⟩
        replace kt : (x.kind.toList == [100, 101, 116, 101, 99, 116, 111, 114]) = false := by simpa using kt
        go_wp2
        go_roundg k
        case measure => omega
        case rel => exact ⟨k, by omega, by go_num, rfl, bt_close HT hend' HP.out (((HI.out.setName hpn x.name).setNm hpn).alloc _) (fun i hi => by simp [updB, hi]) (by simp [updB, bStep, bName, bKind, bDecide, bLife, bUnst, bDet, hq.out, hnm, hem, kd, kc, kr, kx, kt])⟩
      · replace hem : (!x.name.toList.isEmpty) = false := by simpa using hem
        by_cases kd : (x.kind.toList == [100, 101, 99, 105, 100, 101]) = true
        · by_cases hrc : q.rc = true
          · go_wp2
            go_roundg k
            case measure => omega
            case rel => exact ⟨k, by omega, by go_num, rfl, bt_close HT hend' HP.out (HI.out.alloc _) (fun _ _ => rfl) (by simp [updB, bStep, bName, bKind, bDecide, bLife, bUnst, bDet, hq.out, hnm, hem, kd, hrc])⟩
          · replace hrc : q.rc = false := by simpa using hrc
            go_wp2
            go_roundg k
            case measure => omega
            case rel => exact ⟨k, by omega, by go_num, rfl, bt_close HT hend' HP.out ((HI.out.setDecided hpn true).alloc _) (fun i hi => by simp [updB, hi]) (by simp [updB, bStep, bName, bKind, bDecide, bLife, bUnst, bDet, hq.out, hnm, hem, kd, hrc])⟩
        replace kd : (x.kind.toList == [100, 101, 99, 105, 100, 101]) = false := by simpa using kd
        by_cases kc : (x.kind.toList == [99, 114, 97, 115, 104]) = true
        · by_cases hlf : q.lf = true
          · by_cases hxu : x.unst = true
            · go_wp2
              go_roundg k
              case measure => omega
              case rel => exact ⟨k, by omega, by go_num, rfl, bt_close HT hend' HP.out ((HI.out.setUnst hpn true).alloc _) (fun i hi => by simp [updB, hi]) (by simp [updB, bStep, bName, bKind, bDecide, bLife, bUnst, bDet, hq.out, hnm, hem, kd, kc, hlf, hxu])⟩
            · replace hxu : x.unst = false := by simpa using hxu
              go_wp2
              go_roundg k
              case measure => omega
              case rel => exact ⟨k, by omega, by go_num, rfl, bt_close HT hend' HP.out (HI.out.alloc _) (fun _ _ => rfl) (by simp [updB, bStep, bName, bKind, bDecide, bLife, bUnst, bDet, hq.out, hnm, hem, kd, kc, hlf, hxu])⟩
          · replace hlf : q.lf = false := by simpa using hlf
            by_cases hxu : x.unst = true
            · go_wp2
              go_roundg k
              case measure => omega
              case rel => exact ⟨k, by omega, by go_num, rfl, bt_close HT hend' HP.out ((((HI.out.setDown hpn true).setLf hpn).setUnst hpn true).alloc _) (fun i hi => by simp [updB, hi]) (by simp [updB, bStep, bName, bKind, bDecide, bLife, bUnst, bDet, hq.out, hnm, hem, kd, kc, hlf, hxu])⟩
            · replace hxu : x.unst = false := by simpa using hxu
              go_wp2
              go_roundg k
              case measure => omega
              case rel => exact ⟨k, by omega, by go_num, rfl, bt_close HT hend' HP.out (((HI.out.setDown hpn true).setLf hpn).alloc _) (fun i hi => by simp [updB, hi]) (by simp [updB, bStep, bName, bKind, bDecide, bLife, bUnst, bDet, hq.out, hnm, hem, kd, kc, hlf, hxu])⟩
        replace kc : (x.kind.toList == [99, 114, 97, 115, 104]) = false := by simpa using kc
        by_cases kr : (x.kind.toList == [114, 101, 99, 111, 118, 101, 114]) = true
        · go_wp2
          go_roundg k
          case measure => omega
          case rel => exact ⟨k, by omega, by go_num, rfl, bt_close HT hend' HP.out (((HI.out.setLf hpn).setRc hpn).alloc _) (fun i hi => by simp [updB, hi]) (by simp [updB, bStep, bName, bKind, bDecide, bLife, bUnst, bDet, hq.out, hnm, hem, kd, kc, kr])⟩
        replace kr : (x.kind.toList == [114, 101, 99, 111, 118, 101, 114]) = false := by simpa using kr
        by_cases kx : (x.kind.toList == [101, 120, 105, 116]) = true
        · go_wp2
          go_roundg k
          case measure => omega
          case rel => exact ⟨k, by omega, by go_num, rfl, bt_close HT hend' HP.out ((HI.out.setExited hpn true).alloc _) (fun i hi => by simp [updB, hi]) (by simp [updB, bStep, bName, bKind, bDecide, bLife, bUnst, bDet, hq.out, hnm, hem, kd, kc, kr, kx])⟩
        replace kx : (x.kind.toList == [101, 120, 105, 116]) = false := by simpa using kx
        by_cases kt : (x.kind.toList == [100, 101, 116, 101, 99, 116, 111, 114]) = true
        · by_cases hdt : q.dt = true
          · go_wp2
            go_roundg k
            case measure => omega
            case rel => exact ⟨k, by omega, by go_num, rfl, bt_close HT hend' HP.out (HI.out.alloc _) (fun _ _ => rfl) (by simp [updB, bStep, bName, bKind, bDecide, bLife, bUnst, bDet, hq.out, hnm, hem, kd, kc, kr, kx, kt, hdt])⟩
          · replace hdt : q.dt = false := by simpa using hdt
            go_wp2
            go_roundg k
            case measure => omega
            case rel => exact ⟨k, by omega, by go_num, rfl, bt_close HT hend' HP.out ((((HI.out.setOut hpn _ _ _ HS.out).setSince hpn x.t).setDt hpn).alloc _) (fun i hi => by simp [updB, hi]) (by simp [updB, bStep, bName, bKind, bDecide, bLife, bUnst, bDet, hq.out, hnm, hem, kd, kc, kr, kx, kt, hdt])⟩
        replace kt : (x.kind.toList == [100, 101, 116, 101, 99, 116, 111, 114]) = false := by simpa using kt
        go_wp2
        go_roundg k
        case measure => omega
        case rel => exact ⟨k, by omega, by go_num, rfl, bt_close HT hend' HP.out (HI.out.alloc _) (fun _ _ => rfl) (by simp [updB, bStep, bName, bKind, bDecide, bLife, bUnst, bDet, hq.out, hnm, hem, kd, kc, kr, kx, kt])⟩
    | zero =>
      clear hev hin
      have HI := hid hI
      clear hI
      go_wp2
      exact hR.out _ _ ⟨rfl, HI.out⟩
end Go.Proofs.Qxb6600401a
