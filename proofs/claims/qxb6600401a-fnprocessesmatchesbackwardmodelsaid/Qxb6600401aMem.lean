/-
  MEMORY: rows that a call itself makes; what stays where it was.
-/
import Derived.Test.Qxb6600401aBase
namespace Go.Proofs.Qxb6600401a
open Go.RowKit

/-- Block g is a row of n cells of type t, none frozen. -/
def Own (w : World) (g : Nat) (t : TypeId) (n : Nat) : Prop := ∃ c : Array Value, w.heap[g]? = some (.cells c t (0, 0)) ∧ c.size = n

theorem Own.lt {w : World} {g : Nat} {t : TypeId} {n : Nat} (h : Own w g t n) : g < w.heap.size := by
  obtain ⟨c, hb, _⟩ := h
  obtain ⟨hlt, _⟩ := Array.getElem?_eq_some_iff.1 hb
  exact hlt

theorem Own.there {w : World} {g : Nat} {t : TypeId} {n : Nat} (h : Own w g t n) {o m : Nat} (hm : o + m ≤ n) : w.there g o m := by
  obtain ⟨c, hb, hn⟩ := h
  intro j hj
  refine ⟨?_, by simp [World.frozen?, hb]⟩
  have : o + j < c.size := by omega
  simp [World.cell?, hb, this]

theorem Own.of_block {w w' : World} {g : Nat} {t : TypeId} {n : Nat} (h : Own w g t n) (e : w'.heap[g]? = w.heap[g]?) : Own w' g t n := by
  obtain ⟨c, hb, hn⟩ := h
  exact ⟨c, e.trans hb, hn⟩

theorem Own.below {w w' : World} {g : Nat} {t : TypeId} {n : Nat} (h : Own w g t n) (e : Below w.heap.size w w') : Own w' g t n := h.of_block (e.block g h.lt)

theorem Own.setCell {w : World} {g : Nat} {t : TypeId} {n : Nat} (h : Own w g t n) (a : Addr) (v : Value) : Own (w.setCell a v) g t n := by
  by_cases hg : g = a.block
  · obtain ⟨c, hb, hn⟩ := h
    subst hg
    by_cases hs : a.spot.isSome
    · exact ⟨c, by simp [World.setCell, Array.getElem?_modify, hb, hs], hn⟩
    · exact ⟨c.setIfInBounds a.off v, by simp [World.setCell, Array.getElem?_modify, hb, hs], by simpa using hn⟩
  · exact h.of_block (Below.heap_setCell _ _ _ _ hg)

theorem Own.setCells {g : Nat} {t : TypeId} {n : Nat} (b : Nat) : ∀ (vs : List Value) (o : Nat) (w : World), Own w g t n → Own (w.setCells b o vs) g t n
  | [], _, _, h => h
  | v :: r, o, w, h => by rw [World.setCells]; exact Own.setCells b r (o + 1) _ (h.setCell _ _)

theorem own_alloc (w : World) (c : Array Value) (t : TypeId) : Own (w.alloc (.cells c t)) w.heap.size t c.size :=
  ⟨c, by show (w.heap.push _)[_]? = _; simp, rfl⟩

theorem below_setCells {B : Nat} {a : World} (b : Nat) (hb : B ≤ b) : ∀ (vs : List Value) (o : Nat) (w : World), Below B a w → Below B a (w.setCells b o vs)
  | [], _, _, h => h
  | v :: r, o, w, h => by rw [World.setCells]; exact below_setCells b hb r (o + 1) _ (h.setCell (p := ⟨b, o, none⟩) hb v)

theorem heap_setCells (b k : Nat) (hk : k ≠ b) : ∀ (vs : List Value) (o : Nat) (w : World), (w.setCells b o vs).heap[k]? = w.heap[k]?
  | [], _, _ => rfl
  | v :: r, o, w => by rw [World.setCells, heap_setCells b k hk r (o + 1) _]; exact Below.heap_setCell _ _ _ _ hk

theorem size_setCells (b : Nat) : ∀ (vs : List Value) (o : Nat) (w : World), (w.setCells b o vs).heap.size = w.heap.size
  | [], _, _ => rfl
  | v :: r, o, w => by rw [World.setCells, size_setCells b r (o + 1) _]; simp [World.setCell]

theorem rangeAt_below {w w' : World} {b o : Nat} {cs : List Value} (h : w.rangeAt b o cs) (hB : Below w.heap.size w w') : w'.rangeAt b o cs := fun j v hv => cell_later hB (h j v hv)

/-! ### Strings and events stay where they were -/
theorem StrsAt.below {w w' : World} {P : Nat → Prop} {v : Value} {nl : Bool} {ss : List ByteArray} (h : StrsAt w P v nl ss) (hB : Below w.heap.size w w') : StrsAt w' P v nl ss := by
  obtain ⟨ao, cap, rfl, hn, hc⟩ := h
  refine ⟨ao, cap, rfl, hn, fun j hj => ?_⟩
  obtain ⟨b, o, rfl, hp, hcell⟩ := hc j hj
  exact ⟨b, o, rfl, hp, cell_later hB hcell⟩

theorem StrsAt.imp {w : World} {P Q : Nat → Prop} {v : Value} {nl : Bool} {ss : List ByteArray} (h : StrsAt w P v nl ss) (hPQ : ∀ b, P b → Q b) : StrsAt w Q v nl ss := by
  obtain ⟨ao, cap, rfl, hn, hc⟩ := h
  refine ⟨ao, cap, rfl, hn, fun j hj => ?_⟩
  obtain ⟨b, o, rfl, hp, hcell⟩ := hc j hj
  exact ⟨b, o, rfl, hPQ _ hp, hcell⟩

theorem StrsAt.setCells {w : World} {P : Nat → Prop} {v : Value} {nl : Bool} {ss : List ByteArray} (h : StrsAt w P v nl ss) (B : Nat) (hP : ∀ b, P b → b ≠ B) (o : Nat) (vs : List Value) : StrsAt (w.setCells B o vs) P v nl ss := by
  obtain ⟨ao, cap, rfl, hn, hc⟩ := h
  refine ⟨ao, cap, rfl, hn, fun j hj => ?_⟩
  obtain ⟨b, o', rfl, hp, hcell⟩ := hc j hj
  exact ⟨b, o', rfl, hp, by rw [World.cell?_setCells_out B vs o w _ (fun e => absurd e (hP b hp))]; exact hcell⟩

theorem EvAt.below {w w' : World} {P : Nat → Prop} {b o : Nat} {e : Ev} (h : EvAt w P b o e) (hB : Below w.heap.size w w') : EvAt w' P b o e := by
  obtain ⟨v, hr, hs⟩ := h
  exact ⟨v, rangeAt_below hr hB, hs.below hB⟩

theorem EvsAt.below {w w' : World} {P : Nat → Prop} {ao : Option Addr} {es : List Ev} (h : EvsAt w P ao es) (hB : Below w.heap.size w w') : EvsAt w' P ao es := by
  intro i hi
  obtain ⟨b, o, e, he⟩ := h i hi
  exact ⟨b, o, e, he.below hB⟩

theorem EvAt.imp {w : World} {P Q : Nat → Prop} {b o : Nat} {e : Ev} (h : EvAt w P b o e) (hPQ : ∀ b, P b → Q b) : EvAt w Q b o e := by
  obtain ⟨v, hr, hs⟩ := h
  exact ⟨v, hr, hs.imp hPQ⟩

/-! ### make, at any element type -/
theorem run_make_big {P : Program} (t e : TypeId) (z : Value) (size bytes : Nat) (ht : P.underlying t = some (.slice e)) (hinfo : (P.info? e).map (fun i => (i.zero, i.size, i.bytes)) = some (some z, size, bytes))
    (kl kc : IntKind) (n : Int) (h0 : 0 ≤ n) (hbytes : (bytes : Int) * n ≤ 281474976710656) (h63 : n ≤ 9223372036854775807) (w : World) :
    (Instr.makeSlice t (.int kl n) (.int kc n)).run P w = .ok (.slice (some ⟨w.heap.size, 0, none⟩) n.toNat n.toNat) (w.alloc (.cells (madeCells z.cells (n.toNat * size)) e)) := by
  obtain ⟨i, hi, hzz⟩ := Option.map_eq_some_iff.1 hinfo
  simp only [Prod.mk.injEq] at hzz
  obtain ⟨hz, hs, hb⟩ := hzz
  have hr := run_make (P := P) w t e i z ht hi hz kl kc n n h0 (Int.le_refl _) (by rw [hb]; exact hbytes) h63
  rw [hs] at hr
  exact hr

/-- The cells that make lays. -/
theorem getElem_madeCells (z : Array Value) (n i : Nat) (h : i < n) : (madeCells z n)[i]? = some (z[i % z.size]!) := by
  simp [madeCells, h]

theorem Try.info42 : (Try.prog.info? 42).map (fun i => (i.zero, i.size, i.bytes)) = some (some (.agg #[.int .i64 0, .int .i64 0, .string ⟨#[]⟩, .string ⟨#[]⟩, .bool false, .slice none 0 0]), 6, 80) := by kernel_rfl
theorem Try.info9 : (Try.prog.info? 9).map (fun i => (i.zero, i.size, i.bytes)) = some (some (.string ⟨#[]⟩), 1, 16) := by kernel_rfl
theorem Try.info33 : (Try.prog.info? 33).map (fun i => (i.zero, i.size, i.bytes)) = some (some (.string ⟨#[]⟩), 1, 16) := by kernel_rfl
theorem Try.info54 : (Try.prog.info? 54).map (fun i => (i.zero, i.size, i.bytes)) = some (some (.agg #[.int .i64 0, .int .i64 0, .string ⟨#[]⟩, .string ⟨#[]⟩, .int .i64 0, .int .i64 0, .string ⟨#[]⟩, .int .i64 0, .slice none 0 0, .pointer none, .bool false, .int .i64 0, .string ⟨#[]⟩]), 13, 152) := by kernel_rfl
theorem Try.info48 : (Try.prog.info? 48).map (fun i => (i.zero, i.size, i.bytes)) = some (some (.agg #[.string ⟨#[]⟩, .bool false, .bool false, .bool false, .bool false, .slice none 0 0, .int .i64 0]), 7, 56) := by kernel_rfl
theorem Try.info36 : (Try.prog.info? 36).map (fun i => (i.zero, i.size, i.bytes)) = some (some (.agg #[.string ⟨#[]⟩, .bool false, .bool false, .bool false, .bool false, .slice none 0 0, .int .i64 0]), 7, 56) := by kernel_rfl
theorem Try.info3 : (Try.prog.info? 3).map (fun i => (i.zero, i.size, i.bytes)) = some (some (.int .i64 0), 1, 8) := by kernel_rfl

/-! ### The makes of this program: some row of the right number of cells -/
def ZRow (z : Array Value) (m : Nat) : Array Value := madeCells z m
theorem size_ZRow (z : Array Value) (m : Nat) : (ZRow z m).size = m := size_madeCells _ _

theorem make22 (n : Nat) (h : n ≤ 1048576) (w : World) : (Instr.makeSlice 22 (.int .i64 n) (.int .i64 n)).run Try.prog w = .ok (.slice (some ⟨w.heap.size, 0, none⟩) n n) (w.alloc (.cells (ZRow #[.int .i64 0, .int .i64 0, .string ⟨#[]⟩, .string ⟨#[]⟩, .bool false, .slice none 0 0] (n * 6)) 42)) :=
  run_make_big (P := Try.prog) 22 42 _ 6 80 Try.underlying22 Try.info42 .i64 .i64 (n : Int) (by omega) (by omega) (by omega) w
theorem make37 (n : Nat) (h : n ≤ 1048576) (w : World) : (Instr.makeSlice 37 (.int .i64 n) (.int .i64 n)).run Try.prog w = .ok (.slice (some ⟨w.heap.size, 0, none⟩) n n) (w.alloc (.cells (ZRow #[.string ⟨#[]⟩] (n * 1)) 9)) :=
  run_make_big (P := Try.prog) 37 9 _ 1 16 Try.underlying37 Try.info9 .i64 .i64 (n : Int) (by omega) (by omega) (by omega) w
theorem make34 (n : Nat) (h : n ≤ 1048576) (w : World) : (Instr.makeSlice 34 (.int .i64 n) (.int .i64 n)).run Try.prog w = .ok (.slice (some ⟨w.heap.size, 0, none⟩) n n) (w.alloc (.cells (ZRow #[.string ⟨#[]⟩] (n * 1)) 33)) :=
  run_make_big (P := Try.prog) 34 33 _ 1 16 Try.underlying34 Try.info33 .i64 .i64 (n : Int) (by omega) (by omega) (by omega) w
theorem make28 (n : Nat) (h : n ≤ 1048576) (w : World) : (Instr.makeSlice 28 (.int .i64 n) (.int .i64 n)).run Try.prog w = .ok (.slice (some ⟨w.heap.size, 0, none⟩) n n) (w.alloc (.cells (ZRow #[.int .i64 0, .int .i64 0, .string ⟨#[]⟩, .string ⟨#[]⟩, .int .i64 0, .int .i64 0, .string ⟨#[]⟩, .int .i64 0, .slice none 0 0, .pointer none, .bool false, .int .i64 0, .string ⟨#[]⟩] (n * 13)) 54)) :=
  run_make_big (P := Try.prog) 28 54 _ 13 152 Try.underlying28 Try.info54 .i64 .i64 (n : Int) (by omega) (by omega) (by omega) w
theorem make45 (n : Nat) (h : n ≤ 1048576) (w : World) : (Instr.makeSlice 45 (.int .i64 n) (.int .i64 n)).run Try.prog w = .ok (.slice (some ⟨w.heap.size, 0, none⟩) n n) (w.alloc (.cells (ZRow #[.string ⟨#[]⟩, .bool false, .bool false, .bool false, .bool false, .slice none 0 0, .int .i64 0] (n * 7)) 48)) :=
  run_make_big (P := Try.prog) 45 48 _ 7 56 Try.underlying45 Try.info48 .i64 .i64 (n : Int) (by omega) (by omega) (by omega) w
theorem make26 (n : Nat) (h : n ≤ 1048576) (w : World) : (Instr.makeSlice 26 (.int .i64 n) (.int .i64 n)).run Try.prog w = .ok (.slice (some ⟨w.heap.size, 0, none⟩) n n) (w.alloc (.cells (ZRow #[.string ⟨#[]⟩, .bool false, .bool false, .bool false, .bool false, .slice none 0 0, .int .i64 0] (n * 7)) 36)) :=
  run_make_big (P := Try.prog) 26 36 _ 7 56 Try.underlying26 Try.info36 .i64 .i64 (n : Int) (by omega) (by omega) (by omega) w
theorem make40 (n : Nat) (h : n ≤ 1048576) (w : World) : (Instr.makeSlice 40 (.int .i64 n) (.int .i64 n)).run Try.prog w = .ok (.slice (some ⟨w.heap.size, 0, none⟩) n n) (w.alloc (.cells (ZRow #[.int .i64 0] (n * 1)) 3)) :=
  run_make_big (P := Try.prog) 40 3 _ 1 8 Try.underlying40 Try.info3 .i64 .i64 (n : Int) (by omega) (by omega) (by omega) w

end Go.Proofs.Qxb6600401a
