/-
  THE WALK OF THE LAW FnRequiredCurrencyScriptInOrder (9).
-/
import Derived.Test.Qxb6600663aTabParts
namespace Go.Proofs.Qxb6600663a
open Go.RowKit

theorem curB_eq {y : ByteArray} {r : Bool} (h : r = true ↔ CurOk y) : curB y = r := by
  have := (curB_iff y).trans h.symm
  cases r <;> cases hcb : curB y <;> simp_all

/-- What the first k rounds add. -/
def upTo (bs : List Bool) (ts fs : List ByteArray) : Nat → List FE
  | 0 => []
  | k + 1 => upTo bs ts fs k ++ newErr (bs.getD k false) (ts.getD k ByteArray.empty) (fs.getD k ByteArray.empty)

theorem newErr_len (p : Bool) (t f : ByteArray) : (newErr p t f).length ≤ 1 := by
  unfold newErr
  split
  · simp
  · split <;> simp

theorem upTo_len (bs : List Bool) (ts fs : List ByteArray) : ∀ k, (upTo bs ts fs k).length ≤ k
  | 0 => Nat.le_refl _
  | k + 1 => by
    have := upTo_len bs ts fs k
    have := newErr_len (bs.getD k false) (ts.getD k ByteArray.empty) (fs.getD k ByteArray.empty)
    rw [upTo, List.length_append]
    omega

theorem upTo_more (bs : List Bool) (ts fs : List ByteArray) (k : Nat) : ∀ n, k ≤ n → ∃ r, upTo bs ts fs n = upTo bs ts fs k ++ r
  | 0, h => ⟨[], by rw [Nat.le_zero.1 h]; rfl⟩
  | n + 1, h => by
    by_cases e : k = n + 1
    · subst e; exact ⟨[], by simp⟩
    · obtain ⟨r, hr⟩ := upTo_more bs ts fs k n (by omega)
      exact ⟨r ++ _, by rw [upTo, hr, List.append_assoc]⟩

theorem upTo_succ (bs : List Bool) (ts fs : List ByteArray) (k : Nat) (hb : k < bs.length) (ht : k < ts.length) (hf : k < fs.length) : upTo bs ts fs (k + 1) = upTo bs ts fs k ++ newErr bs[k] ts[k] fs[k] := by
  rw [upTo]
  simp [List.getD, hb, ht, hf]

theorem upTo_at (bs : List Bool) (ts fs : List ByteArray) (k n : Nat) (hk : k < n) (hb : k < bs.length) (ht : k < ts.length) (hf : k < fs.length) (f : FE) (he : newErr bs[k] ts[k] fs[k] = [f]) : ∃ h : (upTo bs ts fs k).length < (upTo bs ts fs n).length, (upTo bs ts fs n)[(upTo bs ts fs k).length] = f := by
  obtain ⟨r, hr⟩ := upTo_more bs ts fs (k + 1) n hk
  rw [upTo_succ bs ts fs k hb ht hf, he] at hr
  refine ⟨by rw [hr]; simp, ?_⟩
  simp [hr]

theorem errs_start (w : World) : ErrsIn (w.alloc (.cells #[.slice none 0 0] 37)) w.heap.size (w.heap.size + 1) (.slice none 0 0) [] :=
  ⟨heap_new _ _, World.ownsRow_nil _ _ _ _⟩

theorem Below.of_drewN2 {B : Nat} {w : World} (n : Nat) : Below B w (w.drewN n) := ⟨rfl, rfl, rfl, Nat.le_refl _, fun _ _ => rfl⟩

/-- The list in the course of loop 1. -/
structure SInv (w : World) (bs : List Bool) (ts fs : List ByteArray) (k : Nat) (v : Value) (wr : World) : Prop where
  below : Below w.heap.size w wr
  errs : ErrsIn wr w.heap.size (w.heap.size + 1) v (upTo bs ts fs k)

theorem sinv_start (w : World) (bs : List Bool) (ts fs : List ByteArray) : SInv w bs ts fs 0 (.slice none 0 0) (w.alloc (.cells #[.slice none 0 0] 37)) :=
  ⟨(Below.refl _ _).alloc (Nat.le_refl _) _, errs_start w⟩

theorem sinv_step {w : World} {bs : List Bool} {ts fs : List ByteArray} {k : Nat} {v v' : Value} {wr w' : World} {o : Obj} (h : SInv w bs ts fs k v wr) (hb : k < bs.length) (ht : k < ts.length) (hf : k < fs.length) (he : ErrsIn w' w.heap.size (w.heap.size + 1) v' (upTo bs ts fs k ++ newErr bs[k] ts[k] fs[k])) (hk : Keep (wr.alloc o) w' w.heap.size v) : SInv w bs ts fs (k + 1) v' w' :=
  ⟨(h.below.alloc h.below.size _).trans (hk.below (h.errs.alloc o).row (Nat.le_refl _) (Nat.le_succ _) (by have := h.below.size; simp; omega)), by rw [upTo_succ bs ts fs k hb ht hf]; exact he⟩

set_option maxRecDepth 100000 in
set_option maxHeartbeats 4000000 in
theorem script_walk (ao bo co : Option Addr) (fs ts : List ByteArray) (bs : List Bool) (c1 c2 c3 : Nat) (w : World) (hna : ao = none → fs = []) (hnb : bo = none → ts = []) (hnc : co = none → bs = []) (hx : SAt w ao fs) (hy : SAt w bo ts) (hz : BAt w co bs) :
    Calls Try.prog 9 #[.slice ao fs.length c1, .slice bo ts.length c2, .slice co bs.length c3] w fun e w' => e = .returned (.bool true) ∧ Below w.heap.size w w' := by
  refine hideR fun R' hR => ?_
  have H24 := hid (bytes24 ao bo fs ts c1 c2 co bs.length c3 w hx hy)
  have H25 := hid (in25 ao bo co fs ts bs.length c1 c2 c3 w hx hy)
  have HX := hid hx
  have HY := hid hy
  have HZ := hid hz
  have HNA := hid hna
  have HNB := hid hnb
  have HNC := hid hnc
  clear hx hy hz hna hnb hnc
  go_enter Try.func9, Try.ntmps9
  go_wp2_with fail
  refine H24.out.mono ?_
  rintro e w1 ⟨r, rfl, hw⟩
  rw [hw]
  clear H24 hw
  cases r with
  | false =>
    go_wp2
    exact hR.out _ _ ⟨rfl, Below.refl _ _⟩
  | true =>
  go_wp2_with fail
  refine H25.out.mono ?_
  rintro e w1 ⟨r, rfl, hw, hr⟩
  rw [hw]
  clear H25 hw
  cases r with
  | false =>
    go_wp2
    exact hR.out _ _ ⟨rfl, Below.refl _ _⟩
  | true =>
  obtain ⟨hl1, hl2, hl3, hsh⟩ := hr rfl
  have HSH := hid hsh
  clear hr hsh
  go_wp2_with fail
  refine (cloneS_any ao fs c1 w HNA.out hl1 HX.out).mono ?_
  rintro e w2 ⟨ao', rfl, hx2, hb2⟩
  have HX2 := hid hx2
  have HB2 := hid hb2
  clear hx2 hb2
  go_wp2_with fail
  refine (cloneS_any bo ts c2 w2 HNB.out hl2 (HY.out.below HB2.out)).mono ?_
  rintro e w3 ⟨bo', rfl, hy3, hb3⟩
  have HY3 := hid hy3
  have HX3 := hid (HX2.out.below hb3)
  have HB3 := hid (HB2.out.trans (hb3.mono HB2.out.size))
  clear hy3 hb3 HX2 HB2 HX HY HNA HNB
  go_wp2_with fail
  refine (cloneB_any co bs c3 w3 HNC.out hl3 (HZ.out.below HB3.out)).mono ?_
  rintro e w4 ⟨co', rfl, hz4, hb4⟩
  have HZ4 := hid hz4
  have HX4 := hid (HX3.out.below hb4)
  have HY4 := hid (HY3.out.below hb4)
  have HB4 := hid (HB3.out.trans (hb4.mono HB3.out.size))
  clear hz4 hb4 HX3 HY3 HB3 HZ HNC
  have key : ∃ N : Nat, N ≤ fs.length ∧ N ≤ ts.length ∧ N ≤ bs.length ∧ N ≤ 65536 ∧
      ((fs.length = N ∧ decide (ts.length < N) = false ∧ decide (bs.length < N) = false ∧ decide ((ts.length : Int) < (N : Int)) = false ∧ decide ((bs.length : Int) < (N : Int)) = false)
       ∨ (ts.length = N ∧ decide (N < fs.length) = true ∧ decide (bs.length < N) = false ∧ decide ((N : Int) < (fs.length : Int)) = true ∧ decide ((bs.length : Int) < (N : Int)) = false)
       ∨ (bs.length = N ∧ decide (ts.length < fs.length) = false ∧ decide (N < fs.length) = true ∧ decide ((ts.length : Int) < (fs.length : Int)) = false ∧ decide ((N : Int) < (fs.length : Int)) = true)
       ∨ (bs.length = N ∧ decide (ts.length < fs.length) = true ∧ decide (N < ts.length) = true ∧ decide ((ts.length : Int) < (fs.length : Int)) = true ∧ decide ((N : Int) < (ts.length : Int)) = true)) := by
    simp only [decide_eq_true_eq, decide_eq_false_iff_not]
    refine ⟨min (min fs.length ts.length) bs.length, by omega, by omega, by omega, by omega, ?_⟩
    omega
  obtain ⟨N, hNf, hNt, hNb, hN6, key⟩ := key
  rcases key with ⟨hNe, da, db, dc, dd⟩ | ⟨hNe, da, db, dc, dd⟩ | ⟨hNe, da, db, dc, dd⟩ | ⟨hNe, da, db, dc, dd⟩
  all_goals
    go_wp2
    clear hNe dc dd
    have HI := hid (sinv_start w4 bs ts fs)
    go_loopg [9] N (fun g i wr => ∃ k : Nat, ∃ v, k ≤ N ∧ i = .int .i64 k ∧ g = N - k ∧ SInv w4 bs ts fs k v wr)
    case atStart => exact ⟨0, _, Nat.zero_le _, rfl, rfl, HI.out⟩
    case round =>
      clear HI
      obtain ⟨k, v, hk, rfl, rfl, hI⟩ := hrel
      have HI := hid hI
      have HE : Hid (w4.heap.size < wr.heap.size) := (Array.getElem?_eq_some_iff.1 hI.errs.ptr).1
      clear hI
      by_cases hkN : k < N
      · have hkf : k < fs.length := by omega
        have hkt : k < ts.length := by omega
        have hkb : k < bs.length := by omega
        obtain ⟨b1, o1, rfl, g1⟩ := HX4.out k hkf
        obtain ⟨b2, o2, rfl, g2⟩ := HY4.out k hkt
        obtain ⟨b3, o3, rfl, g3⟩ := HZ4.out k hkb
        replace g1 := cell_later HI.out.below g1
        replace g2 := cell_later HI.out.below g2
        replace g3 := cell_later HI.out.below g3
        have g1' := cell_later ((Below.refl wr.heap.size wr).alloc (Nat.le_refl _) (.cells #[.string ts[k]] 9)) g1
        have g3' := cell_later ((Below.refl wr.heap.size wr).alloc (Nat.le_refl _) (.cells #[.string ts[k]] 9)) g3
        have HEa := hid (HI.out.errs.alloc (.cells #[.string ts[k]] 9))
        have HTa := hid (heap_new wr (.cells #[.string ts[k]] 9))
        have HS : Hid (∀ v' w', ErrsIn w' w4.heap.size (w4.heap.size + 1) v' (upTo bs ts fs k ++ newErr bs[k] ts[k] fs[k]) → Keep (wr.alloc (.cells #[.string ts[k]] 9)) w' w4.heap.size v → SInv w4 bs ts fs (k + 1) v' w') := fun v' w' h1 h2 => sinv_step HI.out hkb hkt hkf h1 h2
        have HL := hid (upTo_len bs ts fs k)
        generalize fs[k] = x at *
        generalize ts[k] = y at *
        generalize bs[k] = p at *
        cases p with
        | false =>
          go_wp2_with fail
          refine (reqCur_nil _ w4.heap.size (w4.heap.size + 1) v (upTo bs ts fs k) _ y HEa.out (by have := HL.out; omega) (by have := HE.out; simp; omega)).mono ?_
          rintro e w5 ⟨rfl, v5, he5, hk5⟩
          have HS5 := hid (HS.out v5 w5 he5 hk5)
          clear he5 hk5 HS HEa HTa
          go_wp2
          go_roundg (N - (k + 1))
          case measure => omega
          case rel => exact ⟨k + 1, _, by omega, by go_num, rfl, HS5.out⟩
        | true =>
          go_wp2_with fail
          refine (reqCur_some _ w4.heap.size (w4.heap.size + 1) v (upTo bs ts fs k) _ y wr.heap.size HEa.out (by have := HL.out; omega) (by have := HE.out; simp; omega) (cell_one HTa.out)).mono ?_
          rintro e w5 ⟨rfl, v5, he5, hk5⟩
          have HS5 := hid (HS.out v5 w5 he5 hk5)
          clear he5 hk5 HS HEa HTa
          go_wp2
          go_roundg (N - (k + 1))
          case measure => omega
          case rel => exact ⟨k + 1, _, by omega, by go_num, rfl, HS5.out⟩
      · obtain rfl : k = N := by omega
        have HB5 := hid HI.out.below
        have HX5 := hid (HX4.out.below HI.out.below)
        have HY5 := hid (HY4.out.below HI.out.below)
        have HZ5 := hid (HZ4.out.below HI.out.below)
        obtain ⟨eo, ecap, rfl, hec⟩ := HI.out.errs.cells
        have hE5 := cell_one HI.out.errs.ptr
        have HEC := hid hec
        obtain ⟨L, hL⟩ : ∃ L, Hid ((upTo bs ts fs k).length = L) := ⟨_, rfl⟩
        rw [hL.out] at hE5
        have hL6 : L ≤ k := by rw [← hL.out]; exact upTo_len bs ts fs k
        clear hec HI HX4 HY4 HZ4 HE
        go_wp2
        go_loopg [12, 13] k (fun g jv i wq => ∃ n j q : Nat, n ≤ k ∧ j ≤ L ∧ jv = .int .i64 j ∧ i = .int .i64 n ∧ g = k - n ∧ Hid ((upTo bs ts fs n).length = j) ∧ wq = wr.drewN q)
        case atStart => exact ⟨0, 0, 0, Nat.zero_le _, Nat.zero_le _, rfl, rfl, rfl, rfl, rfl⟩
        case round =>
          obtain ⟨n, j, q, hn, hj, rfl, rfl, rfl, HJ, rfl⟩ := hrel
          by_cases hnk : n < k
          · have hnf : n < fs.length := by omega
            have hnt : n < ts.length := by omega
            have hnb : n < bs.length := by omega
            obtain ⟨b1, o1, rfl, g1⟩ := HX5.out n hnf
            obtain ⟨b2, o2, rfl, g2⟩ := HY5.out n hnt
            obtain ⟨b3, o3, rfl, g3⟩ := HZ5.out n hnb
            have hsz := HSH.out n hnt hnt
            have HA : Hid (∀ f, newErr bs[n] ts[n] fs[n] = [f] → j < L ∧ (∃ ge, eo = some ⟨ge, 0, none⟩ ∧ wr.cell? ⟨ge, j * 2, none⟩ = some (.string f.field) ∧ wr.cell? ⟨ge, j * 2 + 1, none⟩ = some (.string f.msg)) ∧ (upTo bs ts fs (n + 1)).length = j + 1) := by
              intro f hf
              obtain ⟨h, he⟩ := upTo_at bs ts fs n k hnk hnb hnt hnf f hf
              obtain ⟨ge, h1, h2, h3⟩ := HEC.out _ h
              rw [he] at h2 h3
              rw [HJ.out] at h h2 h3
              rw [hL.out] at h
              exact ⟨h, ⟨ge, h1, h2, h3⟩, by rw [upTo_succ bs ts fs n hnb hnt hnf, hf, List.length_append, HJ.out]; rfl⟩
            have HA0 : Hid (newErr bs[n] ts[n] fs[n] = [] → (upTo bs ts fs (n + 1)).length = j) := fun hf => by rw [upTo_succ bs ts fs n hnb hnt hnf, hf, List.append_nil, HJ.out]
            clear HX5 HY5 HZ5 HEC HSH
            generalize fs[n] = x at *
            generalize ts[n] = y at *
            generalize bs[n] = p at *
            cases p with
            | false =>
              obtain ⟨hjL, ⟨ge, rfl, e1, e2⟩, hnx⟩ := HA.out ⟨x, msgReq⟩ rfl
              have HNX := hid hnx
              clear hnx HA HA0
              go_wp2
              go_quiet (fail)
              go_wp2
              go_roundg (k - (n + 1))
              case measure => omega
              case rel => exact ⟨n + 1, j + 1, _, by omega, by omega, by go_num, by go_num, rfl, HNX, rfl⟩
            | true =>
              go_wp2_with fail
              refine (curModel_any y hsz _).mono ?_
              rintro e w6 ⟨r, rfl, hw6, hr6⟩
              rw [hw6]
              have hrb := curB_eq hr6
              clear hr6 hw6
              cases r with
              | true =>
                have HNX := hid (HA0.out (by simp [newErr, hrb]))
                clear HA HA0 hrb
                go_wp2
                go_roundg (k - (n + 1))
                case measure => omega
                case rel => exact ⟨n + 1, j, _, by omega, by omega, rfl, by go_num, rfl, HNX, rfl⟩
              | false =>
                obtain ⟨hjL, ⟨ge, rfl, e1, e2⟩, hnx⟩ := HA.out ⟨x, msgBad⟩ (by simp [newErr, hrb])
                have HNX := hid hnx
                clear hnx HA HA0 hrb
                go_wp2
                go_quiet (fail)
                go_wp2
                go_roundg (k - (n + 1))
                case measure => omega
                case rel => exact ⟨n + 1, j + 1, _, by omega, by omega, by go_num, by go_num, rfl, HNX, rfl⟩
          · obtain rfl : n = k := by omega
            obtain rfl : j = L := by rw [← HJ.out, ← hL.out]
            clear HX5 HY5 HZ5 HEC HSH
            go_wp2
            exact hR.out _ _ ⟨rfl, (HB4.out.trans (HB5.out.mono HB4.out.size)).trans (Below.of_drewN2 _)⟩

end Go.Proofs.Qxb6600663a
