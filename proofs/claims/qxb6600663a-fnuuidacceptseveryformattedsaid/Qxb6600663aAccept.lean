/-
  THE WALK OF THE LAW FnUUIDAcceptsEveryFormatted (4).
-/
import Derived.Test.Qxb6600663aHex
import Derived.Test.Qxb6600663aLaws
namespace Go.Proofs.Qxb6600663a
open Go.RowKit

/-- n zero bytes. -/
def Zb (n : Nat) : Array Value := madeCells #[.int .u8 0] n
theorem size_Zb (n : Nat) : (Zb n).size = n := size_madeCells _ _

theorem make25 (c : Nat) (hc : c ≤ 1000) (w : World) : (Instr.makeSlice 25 (.int .i64 0) (.int .i64 (c : Int))).run Try.prog w = .ok (.slice (some ⟨w.heap.size, 0, none⟩) 0 c) (w.alloc (.cells (Zb c) 5)) := by
  obtain ⟨i, hi, hz, hs, hb⟩ := info_5
  have := run_make (P := Try.prog) w 25 5 i _ Try.underlying25 hi hz .i64 .i64 0 (c : Int) (by omega) (by omega) (by rw [hb]; omega) (by omega)
  rw [hs] at this
  simpa [Zb, Value.cells] using this

/-- Where the text stands after i bytes. -/
def L (i : Nat) : Nat := 2 * i + (if 4 < i then 1 else 0) + (if 6 < i then 1 else 0) + (if 8 < i then 1 else 0) + (if 10 < i then 1 else 0)

/-- The two buffers and the bytes in memory. -/
structure UInv (w : World) (x : Nat → Int) (bl dl : List Nat) (wr : World) : Prop where
  below : Below w.heap.size w wr
  arr : ∀ j, j < 16 → wr.cell? ⟨w.heap.size, j, none⟩ = some (.int .u8 (x j))
  buf : wr.ownsRow (w.heap.size + 1) 5 1 (.slice (some ⟨w.heap.size + 1, 0, none⟩) bl.length 36) bl.length (bl.map bv)
  dig : wr.ownsRow (w.heap.size + 1) 5 1 (.slice (some ⟨w.heap.size + 1 + 1, 0, none⟩) dl.length 32) dl.length (dl.map bv)

theorem own_made (w : World) (base c : Nat) (hb : base ≤ w.heap.size) (hc : c ≤ 1000) : (w.alloc (.cells (Zb c) 5)).ownsRow base 5 1 (.slice (some ⟨w.heap.size, 0, none⟩) ([] : List Nat).length c) ([] : List Nat).length (([] : List Nat).map bv) :=
  ⟨rfl, .inr ⟨_, c, Zb c, rfl, hb, by show (w.heap.push _)[_]? = _; simp, Nat.zero_le _, by unfold maxLen; omega, by rw [size_Zb]; omega, by simp⟩⟩

theorem UInv.start (w : World) (x : Nat → Int) (c : Array Value) (hc : ∀ j, j < 16 → c[j]? = some (.int .u8 (x j))) : UInv w x [] [] (((w.alloc (.cells c 23)).alloc (.cells (Zb 36) 5)).alloc (.cells (Zb 32) 5)) := by
  have e1 : (w.alloc (.cells c 23)).heap.size = w.heap.size + 1 := by simp
  have e2 : ((w.alloc (.cells c 23)).alloc (.cells (Zb 36) 5)).heap.size = w.heap.size + 1 + 1 := by simp
  have o1 := own_made (w.alloc (.cells c 23)) (w.heap.size + 1) 36 (by simp) (by omega)
  rw [e1] at o1
  have o2 := own_made ((w.alloc (.cells c 23)).alloc (.cells (Zb 36) 5)) (w.heap.size + 1) 32 (by simp) (by omega)
  rw [e2] at o2
  refine ⟨(((Below.refl _ _).alloc (Nat.le_refl _) _).alloc (by simp) _).alloc (by simp; omega) _, fun j hj => ?_, o1.alloc _, o2⟩
  rw [World.cell?_alloc_past _ _ _ (by simp; omega), World.cell?_alloc_past _ _ _ (by simp), World.cell?_alloc_at _ _ _ _ rfl]
  exact hc j hj

theorem UInv.pushBuf {w : World} {x : Nat → Int} {bl dl news : List Nat} {wr W w' : World} (h : UInv w x bl dl wr) (hW : Below wr.heap.size wr W)
    (hown : w'.ownsRow (w.heap.size + 1) 5 1 (.slice (some ⟨w.heap.size + 1, 0, none⟩) (bl ++ news).length 36) (bl ++ news).length ((bl ++ news).map bv)) (hg : W.grownBy w' (some (w.heap.size + 1))) : UInv w x (bl ++ news) dl w' := by
  have hsz : w.heap.size + 1 + 1 < wr.heap.size := by
    obtain ⟨_, h2⟩ := h.dig
    rcases h2 with ⟨h2, _⟩ | ⟨g, _, _, h2, _, hh, _⟩
    · simp at h2
    · simp at h2
      have := (Array.getElem?_eq_some_iff.1 hh).1
      omega
  have hs2 := hW.size
  refine ⟨(h.below.trans (hW.mono (by omega))).grown hg (by omega) (fun k e => by cases e; omega), fun j hj => ?_, hown, ?_⟩
  · have h1 := cell_later hW (h.arr j hj)
    exact (World.cell?_of_block (w := W) (hg.block _ (by show w.heap.size < _; omega) (by simp))).trans h1
  · have h1 : W.ownsRow (w.heap.size + 1) 5 1 (.slice (some ⟨w.heap.size + 1 + 1, 0, none⟩) dl.length 32) dl.length (dl.map bv) := h.dig.kept (row := none) ⟨hW.os, hW.tape, hW.output, hW.size, fun k hk _ => hW.block k hk⟩ (by simp [Value.ownBlock])
    exact h1.kept hg (by simp [Value.ownBlock])

theorem UInv.pushDig {w : World} {x : Nat → Int} {bl dl news : List Nat} {wr W w' : World} (h : UInv w x bl dl wr) (hW : Below wr.heap.size wr W)
    (hown : w'.ownsRow (w.heap.size + 1) 5 1 (.slice (some ⟨w.heap.size + 1 + 1, 0, none⟩) (dl ++ news).length 32) (dl ++ news).length ((dl ++ news).map bv)) (hg : W.grownBy w' (some (w.heap.size + 1 + 1))) : UInv w x bl (dl ++ news) w' := by
  have hsz : w.heap.size + 1 + 1 < wr.heap.size := by
    obtain ⟨_, h2⟩ := h.dig
    rcases h2 with ⟨h2, _⟩ | ⟨g, _, _, h2, _, hh, _⟩
    · simp at h2
    · simp at h2
      have := (Array.getElem?_eq_some_iff.1 hh).1
      omega
  have hs2 := hW.size
  refine ⟨(h.below.trans (hW.mono (by omega))).grown hg (by omega) (fun k e => by cases e; omega), fun j hj => ?_, ?_, hown⟩
  · have h1 := cell_later hW (h.arr j hj)
    exact (World.cell?_of_block (w := W) (hg.block _ (by show w.heap.size < _; omega) (by simp; omega))).trans h1
  · have h1 : W.ownsRow (w.heap.size + 1) 5 1 (.slice (some ⟨w.heap.size + 1, 0, none⟩) bl.length 36) bl.length (bl.map bv) := h.buf.kept (row := none) ⟨hW.os, hW.tape, hW.output, hW.size, fun k hk _ => hW.block k hk⟩ (by simp [Value.ownBlock])
    exact h1.kept hg (by simp [Value.ownBlock])

/-- Every place so far may hold what it holds. -/
def AllOk (bl : List Nat) : Prop := ∀ j (h : j < bl.length), OkAt j bl[j]

theorem AllOk.push {bl : List Nat} {c : Nat} (h : AllOk bl) (hc : OkAt bl.length c) : AllOk (bl ++ [c]) := fun j hj => by
  by_cases e : j < bl.length
  · rw [List.getElem_append_left e]; exact h j e
  · obtain rfl : j = bl.length := by simp at hj; omega
    rw [List.getElem_append_right (Nat.le_refl _)]
    simpa using hc

theorem okAt_lt {i c : Nat} (h : OkAt i c) : c < 256 := by
  by_cases hy : hyph i
  · have := h.1 hy; omega
  · have := h.2 hy; unfold isHex at this; omega

theorem ok_lt {bl : List Nat} (h : AllOk bl) : ∀ c ∈ bl, c < 256 := fun c hc => by
  obtain ⟨j, hj, rfl⟩ := List.getElem_of_mem hc
  exact okAt_lt (h j hj)

theorem uuid_of {bl : List Nat} (h : AllOk bl) (hl : bl.length = 36) : UuidOk ⟨(bl.map UInt8.ofNat).toArray⟩ := by
  refine ⟨by simp [ByteArray.size, hl], fun i hi => ?_⟩
  have hi' : i < bl.length := by simpa [ByteArray.size] using hi
  have he : ((⟨(bl.map UInt8.ofNat).toArray⟩ : ByteArray)[i]).toNat = bl[i] := by
    have h1 : (⟨(bl.map UInt8.ofNat).toArray⟩ : ByteArray)[i] = UInt8.ofNat bl[i] := by
      show (bl.map UInt8.ofNat).toArray[i] = _
      simp
    rw [h1]
    have := okAt_lt (h i hi')
    simp
    omega
  rw [he]
  exact h i hi'

theorem bytes_row {w : World} {base g cap : Nat} {bl : List Nat} (h : w.ownsRow base 5 1 (.slice (some ⟨g, 0, none⟩) bl.length cap) bl.length (bl.map bv)) (hlt : ∀ c ∈ bl, c < 256) :
    ∀ j (hj : j < (bl.map UInt8.ofNat).length), w.cell? ((⟨g, 0, none⟩ : Addr).add j) = some (.int .u8 (((bl.map UInt8.ofNat)[j]).toNat : Int)) := by
  intro j hj
  have hj' : j < bl.length := by simpa using hj
  have := hlt bl[j] (List.getElem_mem hj')
  rw [Addr.add_mid, Nat.zero_add, h.cellAt j (by omega)]
  simp [bv, hj']
  omega

theorem set_cells {w : World} {g : Nat} {s : ByteArray} (h : ∀ j (h : j < s.size), w.cell? ⟨g, j, none⟩ = some (.int .u8 (s[j].toNat : Int))) (p : Nat) (c : UInt8) (hp : p < s.size) :
    ∀ j (hj : j < (s.data.toList.set p c).length), (w.setCell ⟨g, p, none⟩ (.int .u8 (c.toNat : Int))).cell? ((⟨g, 0, none⟩ : Addr).add j) = some (.int .u8 (((s.data.toList.set p c)[j]).toNat : Int)) := by
  intro j hj
  have hj' : j < s.size := by simpa using hj
  rw [Addr.add_mid, Nat.zero_add]
  by_cases e : p = j
  · subst e
    rw [World.cell?_setCell_same _ _ _ (h p hp)]
    simp
  · rw [World.cell?_setCell_other _ _ _ _ (by intro q; exact e (by cases q; rfl)), h j hj']
    simp [e]
    rfl

theorem set_not {s : ByteArray} {p : Nat} {c : UInt8} (_h : UuidOk s) (hp : p < s.size) (hn : ¬ OkAt p c.toNat) : ¬ UuidOk ⟨(s.data.toList.set p c).toArray⟩ := by
  intro q
  have hlt : p < (⟨(s.data.toList.set p c).toArray⟩ : ByteArray).size := by
    show p < (s.data.toList.set p c).toArray.size
    rw [List.size_toArray, List.length_set]
    simpa using hp
  have := q.2 p hlt
  apply hn
  have e : (⟨(s.data.toList.set p c).toArray⟩ : ByteArray)[p] = c := by
    show (s.data.toList.set p c).toArray[p] = c
    simp
  rwa [e] at this

theorem two_lt {dl : List Nat} {c1 c2 : Nat} (h : ∀ c ∈ dl, c < 256) (h1 : isHex c1) (h2 : isHex c2) : ∀ c ∈ dl ++ [c1, c2], c < 256 := by
  intro c hc
  simp at hc
  unfold isHex at h1 h2
  rcases hc with hc | rfl | rfl
  · exact h c hc
  · omega
  · omega

theorem row_below {w w' : World} {base g cap n : Nat} {xs : List Value} (h : w.ownsRow base 5 1 (.slice (some ⟨g, 0, none⟩) n cap) n xs) (hB : Below w.heap.size w w') : w'.ownsRow base 5 1 (.slice (some ⟨g, 0, none⟩) n cap) n xs :=
  h.kept (row := none) ⟨hB.os, hB.tape, hB.output, hB.size, fun k hk _ => hB.block k hk⟩ (by simp [Value.ownBlock])

theorem brace_not (t : ByteArray) : ¬ UuidOk (⟨#[123]⟩ ++ t) := by
  intro q
  have hlt : 0 < (⟨#[123]⟩ ++ t : ByteArray).size := by rw [q.1]; omega
  have h := (q.2 0 hlt).2 (by unfold hyph; omega)
  have e : (⟨#[123]⟩ ++ t : ByteArray)[0] = 123 := by
    rw [ByteArray.getElem_append_left (by decide)]
    rfl
  rw [e] at h
  unfold isHex at h
  simp at h

theorem more_not {s : ByteArray} (h : UuidOk s) : ¬ UuidOk (s ++ ⟨#[48]⟩) := by
  intro q
  have h1 := q.1
  rw [ByteArray.size_append, h.1] at h1
  have e : (⟨#[48]⟩ : ByteArray).size = 1 := rfl
  omega

theorem one_cell (w : World) (c : Nat) (t : TypeId) : ∀ j u, ([c].map bv)[j]? = some u → (w.alloc (.cells #[.int .u8 (c : Int)] t)).cell? ((⟨w.heap.size, 0, none⟩ : Addr).add j) = some u := by
  intro j u hj
  rw [Addr.add_mid, World.cell?_alloc_at _ _ _ _ rfl, Nat.zero_add, ← hj]
  simp [bv]

theorem dash_ok {bl : List Nat} {k : Nat} (h : AllOk bl) (hb : bl.length = L k) (hk : k = 4 ∨ k = 6 ∨ k = 8 ∨ k = 10) : AllOk (bl ++ [45]) :=
  h.push (ok_dash (by rw [hb]; unfold hyph; rcases hk with rfl | rfl | rfl | rfl <;> simp [L]) rfl)

theorem two_ok' {bl : List Nat} {k c1 c2 : Nat} (h : AllOk bl) (hb : bl.length = L k + 1) (hk : k = 4 ∨ k = 6 ∨ k = 8 ∨ k = 10) (h1 : isHex c1) (h2 : isHex c2) : AllOk (bl ++ [c1, c2]) := by
  have e : bl ++ [c1, c2] = (bl ++ [c1]) ++ [c2] := by simp
  rw [e]
  refine (h.push (ok_hex (by rw [hb]; unfold hyph; rcases hk with rfl | rfl | rfl | rfl <;> simp [L]) h1)).push (ok_hex ?_ h2)
  simp only [List.length_append, hb]
  unfold hyph
  rcases hk with rfl | rfl | rfl | rfl <;> simp [L]

theorem L_dash {k : Nat} (hk : k = 4 ∨ k = 6 ∨ k = 8 ∨ k = 10) : L k + 1 + 2 = L (k + 1) ∧ L k + 3 ≤ 36 := by
  rcases hk with rfl | rfl | rfl | rfl <;> simp [L]

theorem two_cells (w : World) (c1 c2 : Nat) (t : TypeId) : ∀ j u, ([c1, c2].map bv)[j]? = some u → (w.alloc (.cells #[.int .u8 (c1 : Int), .int .u8 (c2 : Int)] t)).cell? ((⟨w.heap.size, 0, none⟩ : Addr).add j) = some u := by
  intro j u hj
  rw [Addr.add_mid, World.cell?_alloc_at _ _ _ _ rfl, Nat.zero_add, ← hj]
  simp [bv]

theorem L_bound {k : Nat} (_h : ¬ (k = 4 ∨ k = 6 ∨ k = 8 ∨ k = 10)) (hk : k < 16) : L k + 2 ≤ 36 := by
  unfold L
  repeat' split
  all_goals omega

theorem L_step {k : Nat} (h : ¬ (k = 4 ∨ k = 6 ∨ k = 8 ∨ k = 10)) : L k + 2 = L (k + 1) := by
  unfold L
  repeat' split
  all_goals omega

theorem L_not {k : Nat} (h : ¬ (k = 4 ∨ k = 6 ∨ k = 8 ∨ k = 10)) (hk : k < 16) : ¬ hyph (L k) ∧ ¬ hyph (L k + 1) := by
  unfold L hyph
  repeat' split
  all_goals omega

theorem two_ok {bl : List Nat} {k c1 c2 : Nat} (h : AllOk bl) (hb : bl.length = L k) (hk : ¬ (k = 4 ∨ k = 6 ∨ k = 8 ∨ k = 10)) (hk2 : k < 16) (h1 : isHex c1) (h2 : isHex c2) : AllOk (bl ++ [c1, c2]) := by
  obtain ⟨n1, n2⟩ := L_not hk hk2
  have e : bl ++ [c1, c2] = (bl ++ [c1]) ++ [c2] := by simp
  rw [e]
  refine (h.push (ok_hex (by rw [hb]; exact n1) h1)).push (ok_hex ?_ h2)
  simp [hb]
  exact n2

set_option maxRecDepth 100000 in
set_option maxHeartbeats 2000000 in
theorem accept_walk (x : Nat → Int) (m : Int) (hx : ∀ i, 0 ≤ x i ∧ x i ≤ 255) (_hm : 0 ≤ m ∧ m ≤ 4294967295) (w : World) :
    Calls Try.prog 4 #[.agg #[.int .u8 (x 0), .int .u8 (x 1), .int .u8 (x 2), .int .u8 (x 3), .int .u8 (x 4), .int .u8 (x 5), .int .u8 (x 6), .int .u8 (x 7), .int .u8 (x 8), .int .u8 (x 9), .int .u8 (x 10), .int .u8 (x 11), .int .u8 (x 12), .int .u8 (x 13), .int .u8 (x 14), .int .u8 (x 15)], .int .u32 m] w fun e w' => e = .returned (.bool true) ∧ Below w.heap.size w w' := by
  refine hideR fun R' hR => ?_
  have mk36 : ∀ w : World, (Instr.makeSlice 25 (.int .i64 0) (.int .i64 36)).run Try.prog w = .ok (.slice (some ⟨w.heap.size, 0, none⟩) 0 36) (w.alloc (.cells (Zb 36) 5)) := make25 36 (by omega)
  have mk32 : ∀ w : World, (Instr.makeSlice 25 (.int .i64 0) (.int .i64 32)).run Try.prog w = .ok (.slice (some ⟨w.heap.size, 0, none⟩) 0 32) (w.alloc (.cells (Zb 32) 5)) := make25 32 (by omega)
  have hI := UInv.start w x #[.int .u8 (x 0), .int .u8 (x 1), .int .u8 (x 2), .int .u8 (x 3), .int .u8 (x 4), .int .u8 (x 5), .int .u8 (x 6), .int .u8 (x 7), .int .u8 (x 8), .int .u8 (x 9), .int .u8 (x 10), .int .u8 (x 11), .int .u8 (x 12), .int .u8 (x 13), .int .u8 (x 14), .int .u8 (x 15)] (fun j hj => by
    rcases (show j = 0 ∨ j = 1 ∨ j = 2 ∨ j = 3 ∨ j = 4 ∨ j = 5 ∨ j = 6 ∨ j = 7 ∨ j = 8 ∨ j = 9 ∨ j = 10 ∨ j = 11 ∨ j = 12 ∨ j = 13 ∨ j = 14 ∨ j = 15 by omega) with rfl | rfl | rfl | rfl | rfl | rfl | rfl | rfl | rfl | rfl | rfl | rfl | rfl | rfl | rfl | rfl <;> rfl)
  have HX := hid hx
  clear hx
  go_enter Try.func4, Try.ntmps4
  go_wp2
  clear mk36 mk32
  go_loopg [5, 6, 7, 8, 9, 10] 16 (fun g bu di d i hi lo wr => ∃ k : Nat, ∃ bl dl : List Nat, k ≤ 16 ∧ i = .int .i64 k ∧ d = .int .u64 (2 * k : Nat) ∧ g = 16 - k ∧ bl.length = L k ∧ dl.length = 2 * k ∧ bu = .slice (some ⟨w.heap.size + 1, 0, none⟩) bl.length 36 ∧ di = .slice (some ⟨w.heap.size + 1 + 1, 0, none⟩) dl.length 32 ∧ AllOk bl ∧ (∀ c ∈ dl, c < 256) ∧ UInv w x bl dl wr)
  case atStart => exact ⟨0, [], [], by omega, rfl, rfl, rfl, rfl, rfl, rfl, rfl, fun j h => absurd h (Nat.not_lt_zero j), fun c h => by simp at h, hI⟩
  case round =>
    clear hI
    obtain ⟨k, bl, dl, hk, rfl, rfl, rfl, hbl, hdl, rfl, rfl, hok, hdb, hI⟩ := hrel
    have HDB := hid hdb
    clear hdb
    have HI := hid hI
    have HK := hid hok
    have HB := hid hbl
    have HD := hid hdl
    clear hI hok hbl hdl
    by_cases hlt : k < 16
    · have hxk := HX.out k
      have hcx := HI.out.arr k hlt
      by_cases hh : k = 4 ∨ k = 6 ∨ k = 8 ∨ k = 10
      · have HH := hid hh
        rcases hh with h4 | h4 | h4 | h4
        · have y4 : ((k : Int) == 4) = true := beq_iff_eq.2 (by omega)
          have HQ := hid h4
          clear h4
          go_wp2_with (refine app_bytes (.tmp 35) (.tmp 36) ?_)
          refine ⟨w.heap.size + 1, w.heap.size + 1, 36, bl, ⟨wr.heap.size, 0, none⟩, 1, 1, [45], rfl, HI.out.buf.alloc _, rfl, rfl, one_cell _ _ _, by rw [HB.out]; have := (L_dash HH.out).2; omega, ?_⟩
          intro w3 hown3 hg3
          have HI3 := hid (HI.out.pushBuf ((Below.refl _ _).alloc (Nat.le_refl _) _) hown3 hg3)
          have HB3 : Hid ((bl ++ [45]).length = L k + 1) := by show _ = _; rw [List.length_append, HB.out]; rfl
          have HK3 := hid (dash_ok HK.out HB.out HH.out)
          have HE3 : Hid (bl.length + 1 = (bl ++ [45]).length) := by show _ = _; simp
          clear hown3 hg3
          rw [HE3.out]
          generalize bl ++ [45] = bl3 at *
          have hcx3 := HI3.out.arr k hlt
          clear hcx
          go_wp2_with fail
          refine (hexChar_any (x k / 16) _ _ (by omega) (by omega)).mono ?_
          rintro e w2 ⟨c1, rfl, hw2, hc1⟩
          rw [hw2]
          have HC1 := hid hc1
          clear hw2 hc1
          go_wp2_with fail
          refine (hexChar_any (x k % 16) _ _ (by omega) (by omega)).mono ?_
          rintro e w2 ⟨c2, rfl, hw2, hc2⟩
          rw [hw2]
          have HC2 := hid hc2
          clear hw2 hc2
          go_wp2_with (refine app_bytes (.tmp 64) (.tmp 67) ?_)
          refine ⟨w.heap.size + 1, w.heap.size + 1, 36, bl3, ⟨w3.heap.size, 0, none⟩, 2, 2, [c1, c2], rfl, HI3.out.buf.alloc _, rfl, rfl, two_cells _ _ _ _, by rw [HB3.out]; have := (L_dash HH.out).2; omega, ?_⟩
          intro w4 hown4 hg4
          have HI4 := hid (HI3.out.pushBuf ((Below.refl _ _).alloc (Nat.le_refl _) _) hown4 hg4)
          clear hown4 hg4
          go_wp2_with (refine app_bytes (.tmp 69) (.tmp 72) ?_)
          refine ⟨w.heap.size + 1, w.heap.size + 1 + 1, 32, dl, ⟨w4.heap.size, 0, none⟩, 2, 2, [c1, c2], rfl, HI4.out.dig.alloc _, rfl, rfl, two_cells _ _ _ _, by rw [HD.out]; omega, ?_⟩
          intro w5 hown5 hg5
          have HI5 := hid (HI4.out.pushDig ((Below.refl _ _).alloc (Nat.le_refl _) _) hown5 hg5)
          clear hown5 hg5
          go_wp2
          go_roundg (16 - (k + 1))
          case measure => omega
          case rel => exact ⟨k + 1, bl3 ++ [c1, c2], dl ++ [c1, c2], by omega, by go_num, by go_num, rfl, by rw [List.length_append, HB3.out]; exact (L_dash HH.out).1, by rw [List.length_append, HD.out]; simp; omega, by simp, by simp, two_ok' HK3.out HB3.out HH.out HC1.out HC2.out, two_lt HDB.out HC1.out HC2.out, HI5.out⟩
        · have y6 : ((k : Int) == 6) = true := beq_iff_eq.2 (by omega)
          have y4 : ((k : Int) == 4) = false := beq_eq_false_iff_ne.2 (by omega)
          have HQ := hid h4
          clear h4
          go_wp2_with (refine app_bytes (.tmp 35) (.tmp 36) ?_)
          refine ⟨w.heap.size + 1, w.heap.size + 1, 36, bl, ⟨wr.heap.size, 0, none⟩, 1, 1, [45], rfl, HI.out.buf.alloc _, rfl, rfl, one_cell _ _ _, by rw [HB.out]; have := (L_dash HH.out).2; omega, ?_⟩
          intro w3 hown3 hg3
          have HI3 := hid (HI.out.pushBuf ((Below.refl _ _).alloc (Nat.le_refl _) _) hown3 hg3)
          have HB3 : Hid ((bl ++ [45]).length = L k + 1) := by show _ = _; rw [List.length_append, HB.out]; rfl
          have HK3 := hid (dash_ok HK.out HB.out HH.out)
          have HE3 : Hid (bl.length + 1 = (bl ++ [45]).length) := by show _ = _; simp
          clear hown3 hg3
          rw [HE3.out]
          generalize bl ++ [45] = bl3 at *
          have hcx3 := HI3.out.arr k hlt
          clear hcx
          go_wp2_with fail
          refine (hexChar_any (x k / 16) _ _ (by omega) (by omega)).mono ?_
          rintro e w2 ⟨c1, rfl, hw2, hc1⟩
          rw [hw2]
          have HC1 := hid hc1
          clear hw2 hc1
          go_wp2_with fail
          refine (hexChar_any (x k % 16) _ _ (by omega) (by omega)).mono ?_
          rintro e w2 ⟨c2, rfl, hw2, hc2⟩
          rw [hw2]
          have HC2 := hid hc2
          clear hw2 hc2
          go_wp2_with (refine app_bytes (.tmp 64) (.tmp 67) ?_)
          refine ⟨w.heap.size + 1, w.heap.size + 1, 36, bl3, ⟨w3.heap.size, 0, none⟩, 2, 2, [c1, c2], rfl, HI3.out.buf.alloc _, rfl, rfl, two_cells _ _ _ _, by rw [HB3.out]; have := (L_dash HH.out).2; omega, ?_⟩
          intro w4 hown4 hg4
          have HI4 := hid (HI3.out.pushBuf ((Below.refl _ _).alloc (Nat.le_refl _) _) hown4 hg4)
          clear hown4 hg4
          go_wp2_with (refine app_bytes (.tmp 69) (.tmp 72) ?_)
          refine ⟨w.heap.size + 1, w.heap.size + 1 + 1, 32, dl, ⟨w4.heap.size, 0, none⟩, 2, 2, [c1, c2], rfl, HI4.out.dig.alloc _, rfl, rfl, two_cells _ _ _ _, by rw [HD.out]; omega, ?_⟩
          intro w5 hown5 hg5
          have HI5 := hid (HI4.out.pushDig ((Below.refl _ _).alloc (Nat.le_refl _) _) hown5 hg5)
          clear hown5 hg5
          go_wp2
          go_roundg (16 - (k + 1))
          case measure => omega
          case rel => exact ⟨k + 1, bl3 ++ [c1, c2], dl ++ [c1, c2], by omega, by go_num, by go_num, rfl, by rw [List.length_append, HB3.out]; exact (L_dash HH.out).1, by rw [List.length_append, HD.out]; simp; omega, by simp, by simp, two_ok' HK3.out HB3.out HH.out HC1.out HC2.out, two_lt HDB.out HC1.out HC2.out, HI5.out⟩
        · have y8 : ((k : Int) == 8) = true := beq_iff_eq.2 (by omega)
          have y4 : ((k : Int) == 4) = false := beq_eq_false_iff_ne.2 (by omega)
          have y6 : ((k : Int) == 6) = false := beq_eq_false_iff_ne.2 (by omega)
          have HQ := hid h4
          clear h4
          go_wp2_with (refine app_bytes (.tmp 35) (.tmp 36) ?_)
          refine ⟨w.heap.size + 1, w.heap.size + 1, 36, bl, ⟨wr.heap.size, 0, none⟩, 1, 1, [45], rfl, HI.out.buf.alloc _, rfl, rfl, one_cell _ _ _, by rw [HB.out]; have := (L_dash HH.out).2; omega, ?_⟩
          intro w3 hown3 hg3
          have HI3 := hid (HI.out.pushBuf ((Below.refl _ _).alloc (Nat.le_refl _) _) hown3 hg3)
          have HB3 : Hid ((bl ++ [45]).length = L k + 1) := by show _ = _; rw [List.length_append, HB.out]; rfl
          have HK3 := hid (dash_ok HK.out HB.out HH.out)
          have HE3 : Hid (bl.length + 1 = (bl ++ [45]).length) := by show _ = _; simp
          clear hown3 hg3
          rw [HE3.out]
          generalize bl ++ [45] = bl3 at *
          have hcx3 := HI3.out.arr k hlt
          clear hcx
          go_wp2_with fail
          refine (hexChar_any (x k / 16) _ _ (by omega) (by omega)).mono ?_
          rintro e w2 ⟨c1, rfl, hw2, hc1⟩
          rw [hw2]
          have HC1 := hid hc1
          clear hw2 hc1
          go_wp2_with fail
          refine (hexChar_any (x k % 16) _ _ (by omega) (by omega)).mono ?_
          rintro e w2 ⟨c2, rfl, hw2, hc2⟩
          rw [hw2]
          have HC2 := hid hc2
          clear hw2 hc2
          go_wp2_with (refine app_bytes (.tmp 64) (.tmp 67) ?_)
          refine ⟨w.heap.size + 1, w.heap.size + 1, 36, bl3, ⟨w3.heap.size, 0, none⟩, 2, 2, [c1, c2], rfl, HI3.out.buf.alloc _, rfl, rfl, two_cells _ _ _ _, by rw [HB3.out]; have := (L_dash HH.out).2; omega, ?_⟩
          intro w4 hown4 hg4
          have HI4 := hid (HI3.out.pushBuf ((Below.refl _ _).alloc (Nat.le_refl _) _) hown4 hg4)
          clear hown4 hg4
          go_wp2_with (refine app_bytes (.tmp 69) (.tmp 72) ?_)
          refine ⟨w.heap.size + 1, w.heap.size + 1 + 1, 32, dl, ⟨w4.heap.size, 0, none⟩, 2, 2, [c1, c2], rfl, HI4.out.dig.alloc _, rfl, rfl, two_cells _ _ _ _, by rw [HD.out]; omega, ?_⟩
          intro w5 hown5 hg5
          have HI5 := hid (HI4.out.pushDig ((Below.refl _ _).alloc (Nat.le_refl _) _) hown5 hg5)
          clear hown5 hg5
          go_wp2
          go_roundg (16 - (k + 1))
          case measure => omega
          case rel => exact ⟨k + 1, bl3 ++ [c1, c2], dl ++ [c1, c2], by omega, by go_num, by go_num, rfl, by rw [List.length_append, HB3.out]; exact (L_dash HH.out).1, by rw [List.length_append, HD.out]; simp; omega, by simp, by simp, two_ok' HK3.out HB3.out HH.out HC1.out HC2.out, two_lt HDB.out HC1.out HC2.out, HI5.out⟩
        · have y10 : ((k : Int) == 10) = true := beq_iff_eq.2 (by omega)
          have y4 : ((k : Int) == 4) = false := beq_eq_false_iff_ne.2 (by omega)
          have y6 : ((k : Int) == 6) = false := beq_eq_false_iff_ne.2 (by omega)
          have y8 : ((k : Int) == 8) = false := beq_eq_false_iff_ne.2 (by omega)
          have HQ := hid h4
          clear h4
          go_wp2_with (refine app_bytes (.tmp 35) (.tmp 36) ?_)
          refine ⟨w.heap.size + 1, w.heap.size + 1, 36, bl, ⟨wr.heap.size, 0, none⟩, 1, 1, [45], rfl, HI.out.buf.alloc _, rfl, rfl, one_cell _ _ _, by rw [HB.out]; have := (L_dash HH.out).2; omega, ?_⟩
          intro w3 hown3 hg3
          have HI3 := hid (HI.out.pushBuf ((Below.refl _ _).alloc (Nat.le_refl _) _) hown3 hg3)
          have HB3 : Hid ((bl ++ [45]).length = L k + 1) := by show _ = _; rw [List.length_append, HB.out]; rfl
          have HK3 := hid (dash_ok HK.out HB.out HH.out)
          have HE3 : Hid (bl.length + 1 = (bl ++ [45]).length) := by show _ = _; simp
          clear hown3 hg3
          rw [HE3.out]
          generalize bl ++ [45] = bl3 at *
          have hcx3 := HI3.out.arr k hlt
          clear hcx
          go_wp2_with fail
          refine (hexChar_any (x k / 16) _ _ (by omega) (by omega)).mono ?_
          rintro e w2 ⟨c1, rfl, hw2, hc1⟩
          rw [hw2]
          have HC1 := hid hc1
          clear hw2 hc1
          go_wp2_with fail
          refine (hexChar_any (x k % 16) _ _ (by omega) (by omega)).mono ?_
          rintro e w2 ⟨c2, rfl, hw2, hc2⟩
          rw [hw2]
          have HC2 := hid hc2
          clear hw2 hc2
          go_wp2_with (refine app_bytes (.tmp 64) (.tmp 67) ?_)
          refine ⟨w.heap.size + 1, w.heap.size + 1, 36, bl3, ⟨w3.heap.size, 0, none⟩, 2, 2, [c1, c2], rfl, HI3.out.buf.alloc _, rfl, rfl, two_cells _ _ _ _, by rw [HB3.out]; have := (L_dash HH.out).2; omega, ?_⟩
          intro w4 hown4 hg4
          have HI4 := hid (HI3.out.pushBuf ((Below.refl _ _).alloc (Nat.le_refl _) _) hown4 hg4)
          clear hown4 hg4
          go_wp2_with (refine app_bytes (.tmp 69) (.tmp 72) ?_)
          refine ⟨w.heap.size + 1, w.heap.size + 1 + 1, 32, dl, ⟨w4.heap.size, 0, none⟩, 2, 2, [c1, c2], rfl, HI4.out.dig.alloc _, rfl, rfl, two_cells _ _ _ _, by rw [HD.out]; omega, ?_⟩
          intro w5 hown5 hg5
          have HI5 := hid (HI4.out.pushDig ((Below.refl _ _).alloc (Nat.le_refl _) _) hown5 hg5)
          clear hown5 hg5
          go_wp2
          go_roundg (16 - (k + 1))
          case measure => omega
          case rel => exact ⟨k + 1, bl3 ++ [c1, c2], dl ++ [c1, c2], by omega, by go_num, by go_num, rfl, by rw [List.length_append, HB3.out]; exact (L_dash HH.out).1, by rw [List.length_append, HD.out]; simp; omega, by simp, by simp, two_ok' HK3.out HB3.out HH.out HC1.out HC2.out, two_lt HDB.out HC1.out HC2.out, HI5.out⟩
      · have y1 : ((k : Int) == 4) = false := beq_eq_false_iff_ne.2 (by omega)
        have y2 : ((k : Int) == 6) = false := beq_eq_false_iff_ne.2 (by omega)
        have y3 : ((k : Int) == 8) = false := beq_eq_false_iff_ne.2 (by omega)
        have y4 : ((k : Int) == 10) = false := beq_eq_false_iff_ne.2 (by omega)
        have HH := hid hh
        clear hh
        go_wp2_with fail
        refine (hexChar_any (x k / 16) _ _ (by omega) (by omega)).mono ?_
        rintro e w2 ⟨c1, rfl, hw2, hc1⟩
        rw [hw2]
        have HC1 := hid hc1
        clear hw2 hc1
        go_wp2_with fail
        refine (hexChar_any (x k % 16) _ _ (by omega) (by omega)).mono ?_
        rintro e w2 ⟨c2, rfl, hw2, hc2⟩
        rw [hw2]
        have HC2 := hid hc2
        clear hw2 hc2
        go_wp2_with (refine app_bytes (.tmp 64) (.tmp 67) ?_)
        refine ⟨w.heap.size + 1, w.heap.size + 1, 36, bl, ⟨wr.heap.size, 0, none⟩, 2, 2, [c1, c2], rfl, HI.out.buf.alloc _, rfl, rfl, two_cells _ _ _ _, by rw [HB.out]; exact L_bound HH.out hlt, ?_⟩
        intro w3 hown3 hg3
        have HI3 := hid (HI.out.pushBuf ((Below.refl _ _).alloc (Nat.le_refl _) _) hown3 hg3)
        clear hown3 hg3
        go_wp2_with (refine app_bytes (.tmp 69) (.tmp 72) ?_)
        refine ⟨w.heap.size + 1, w.heap.size + 1 + 1, 32, dl, ⟨w3.heap.size, 0, none⟩, 2, 2, [c1, c2], rfl, HI3.out.dig.alloc _, rfl, rfl, two_cells _ _ _ _, by rw [HD.out]; omega, ?_⟩
        intro w4 hown4 hg4
        have HI4 := hid (HI3.out.pushDig ((Below.refl _ _).alloc (Nat.le_refl _) _) hown4 hg4)
        clear hown4 hg4
        go_wp2
        go_roundg (16 - (k + 1))
        case measure => omega
        case rel => exact ⟨k + 1, bl ++ [c1, c2], dl ++ [c1, c2], by omega, by go_num, by go_num, rfl, by rw [List.length_append, HB.out]; exact L_step HH.out, by rw [List.length_append, HD.out]; simp; omega, by simp, by simp, two_ok HK.out HB.out HH.out hlt HC1.out HC2.out, two_lt HDB.out HC1.out HC2.out, HI4.out⟩
    · obtain rfl : k = 16 := by omega
      have hokb : UuidOk ⟨(bl.map UInt8.ofNat).toArray⟩ := uuid_of HK.out (HB.out.trans rfl)
      have hszb : (⟨(bl.map UInt8.ofNat).toArray⟩ : ByteArray).size = bl.length := by simp [ByteArray.size]
      go_wp2_with (refine conv_str (.tmp 74) ?_)
      refine ⟨⟨w.heap.size + 1, 0, none⟩, bl.length, 36, bl.map UInt8.ofNat, rfl, by simp, bytes_row HI.out.buf (ok_lt HK.out), ?_⟩
      have HU := hid hokb
      have HZ : Hid ((⟨(bl.map UInt8.ofNat).toArray⟩ : ByteArray).size = 36) := hokb.1
      clear hokb hszb
      generalize (⟨(bl.map UInt8.ofNat).toArray⟩ : ByteArray) = s at *
      go_wp2_with fail
      refine (uuid_any s wr).mono ?_
      rintro e w2 ⟨r, rfl, hw2, hr⟩
      rw [hw2]
      obtain rfl : r = true := hr.2 HU.out
      clear hw2 hr
      go_wp2
      go_loopg [12] 4 (fun g i wq => ∃ k : Nat, k ≤ 4 ∧ i = .int .i64 k ∧ g = 4 - k ∧ Below wr.heap.size wr wq)
      case atStart => exact ⟨0, by omega, rfl, rfl, Below.refl _ _⟩
      case round =>
        obtain ⟨k, hk4, rfl, rfl, hb⟩ := hrel
        have HBW := hid hb
        clear hb
        by_cases hlt4 : k < 4
        · go_wp2_with (refine conv_bytes (.tmp 83) ?_)
          refine ⟨s, rfl, ?_⟩
          intro w3 cap3 hb3 hsz3 hc3 hf3
          have HB3 := hid hb3
          have HC3 := hid hc3
          clear hb3 hc3
          go_wp2_with fail
          refine (hyphenPos_any k hlt4 w3).mono ?_
          rintro e w4 ⟨p, rfl, hw4, hp⟩
          rw [hw4]
          have hp36 : p < s.size := by rw [HZ.out]; unfold hyph at hp; omega
          have hfp := hf3 p hp36
          have hcp := HC3.out p hp36
          have HP := hid hp
          clear hw4 hp hf3
          go_wp2_with (refine conv_str (.tmp 89) ?_)
          refine ⟨⟨wr.heap.size, 0, none⟩, s.size, cap3, s.data.toList.set p 48, rfl, by simp, set_cells HC3.out p 48 hp36, ?_⟩
          have HN := hid (set_not (c := 48) HU.out hp36 (not_dash HP.out (by decide)))
          generalize (⟨(s.data.toList.set p 48).toArray⟩ : ByteArray) = s2 at *
          go_wp2_with fail
          refine (uuid_any s2 _).mono ?_
          rintro e w5 ⟨r, rfl, hw5, hr⟩
          obtain rfl : r = false := by cases r with | false => rfl | true => exact absurd (hr.1 rfl) HN.out
          have HB5 : Hid (Below wr.heap.size wr w5) := by rw [hw5]; exact HB3.out.setCell (Nat.le_refl _) _
          clear hw5 hr hcp hfp hsz3
          go_wp2
          go_roundg (4 - (k + 1))
          case measure => omega
          case rel => exact ⟨k + 1, by omega, by go_num, rfl, HBW.out.trans (HB5.out.mono HBW.out.size)⟩
        · go_wp2_with (refine conv_bytes (.tmp 92) ?_)
          refine ⟨s, rfl, ?_⟩
          intro w3 cap3 hb3 hsz3 hc3 hf3
          have HB3 := hid hb3
          have HC3 := hid hc3
          clear hb3 hc3
          have hp36 : 35 < s.size := by rw [HZ.out]; omega
          have hs36 : s.size ≤ 36 := by rw [HZ.out]; omega
          have hfp := hf3 35 hp36
          have hcp := HC3.out 35 hp36
          clear hf3
          go_wp2_with (refine conv_str (.tmp 96) ?_)
          refine ⟨⟨wr.heap.size, 0, none⟩, s.size, cap3, s.data.toList.set 35 103, rfl, by simp, set_cells HC3.out 35 103 hp36, ?_⟩
          have HN := hid (set_not (c := 103) HU.out hp36 (not_hex (by unfold hyph; omega) (by unfold isHex; decide)))
          generalize (⟨(s.data.toList.set 35 103).toArray⟩ : ByteArray) = s2 at *
          go_wp2_with fail
          refine (uuid_any s2 _).mono ?_
          rintro e w5 ⟨r, rfl, hw5, hr⟩
          obtain rfl : r = false := by cases r with | false => rfl | true => exact absurd (hr.1 rfl) HN.out
          have HB5 : Hid (Below wr.heap.size wr w5) := by rw [hw5]; exact HB3.out.setCell (Nat.le_refl _) _
          clear hw5 hr hcp hfp hsz3
          have HB05 := hid (HBW.out.trans (HB5.out.mono HBW.out.size))
          go_wp2_with (refine conv_str (.tmp 99) ?_)
          refine ⟨⟨w.heap.size + 1 + 1, 0, none⟩, dl.length, 32, dl.map UInt8.ofNat, rfl, by simp, bytes_row (row_below HI.out.dig HB05.out) HDB.out, ?_⟩
          have HN3 : Hid (¬ UuidOk ⟨(dl.map UInt8.ofNat).toArray⟩) := fun q => by
            have h1 := q.1
            have h2 := HD.out
            simp [ByteArray.size] at h1
            omega
          generalize (⟨(dl.map UInt8.ofNat).toArray⟩ : ByteArray) = s3 at *
          go_wp2_with fail
          refine (uuid_any s3 w5).mono ?_
          rintro e w6 ⟨r, rfl, hw6, hr⟩
          rw [hw6]
          obtain rfl : r = false := by cases r with | false => rfl | true => exact absurd (hr.1 rfl) HN3.out
          clear hw6 hr
          go_wp2_with fail
          refine (uuid_any (s.extract 0 35) w5).mono ?_
          rintro e w6 ⟨r, rfl, hw6, hr⟩
          rw [hw6]
          obtain rfl : r = false := by cases r with | false => rfl | true => exact absurd (hr.1 rfl) (fun q => by have := q.1; simp at this; omega)
          clear hw6 hr
          go_wp2_with fail
          refine (uuid_any _ w5).mono ?_
          rintro e w6 ⟨r, rfl, hw6, hr⟩
          rw [hw6]
          obtain rfl : r = false := by cases r with | false => rfl | true => exact absurd (hr.1 rfl) (fun q => by have h1 := q.1; rw [ByteArray.size_append, HZ.out] at h1; simp [ByteArray.size] at h1)
          clear hw6 hr
          go_wp2_with fail
          refine (uuid_any _ w5).mono ?_
          rintro e w6 ⟨r, rfl, hw6, hr⟩
          rw [hw6]
          obtain rfl : r = false := by cases r with | false => rfl | true => exact absurd (hr.1 rfl) (brace_not (s.extract 0 35))
          clear hw6 hr
          go_wp2
          exact hR.out _ _ ⟨rfl, HI.out.below.trans (HB05.out.mono HI.out.below.size)⟩
end Go.Proofs.Qxb6600663a
