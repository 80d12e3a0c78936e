/-
  THE WALK OF zzSameRec (15), where the two records are the same.
-/
import Derived.Test.Qxb6600401aZz
namespace Go.Proofs.Qxb6600401a
open Go.RowKit

theorem Below.of_drewN {B : Nat} {w : World} (n : Nat) : Below B w (w.drewN n) := ⟨rfl, rfl, rfl, Nat.le_refl _, fun _ _ => rfl⟩

set_option maxRecDepth 100000 in
set_option maxHeartbeats 2000000 in
theorem same_any (p : Pr) (va vb : Value) (w : World) (hm : p.out.length ≤ 1048576) (ha : StrsAt w (fun _ => True) va p.nl p.out) (hb : StrsAt w (fun _ => True) vb p.nl p.out) :
    Calls Try.prog 15 #[.agg (prc p va).toArray, .agg (prc p vb).toArray] w fun e w' => e = .returned (.bool true) ∧ Below w.heap.size w w' := by
  refine hideR fun R' hR => ?_
  have q34 : ∀ (w : World) (a : Option Addr) (n c : Nat), (binOp .eql 34 (.slice a n c) (.slice none 0 0)).run Try.prog w = .ok (.bool a.isNone) w := fun w a n c => Lib.run_eql_slice_nil w _ _ _ _ _ _ _ Try.underlying34
  obtain ⟨aa, ca, rfl, hna, hca⟩ := ha
  obtain ⟨ab, cb, rfl, hnb, hcb⟩ := hb
  have hnn : aa.isNone = ab.isNone := by rw [hna, hnb]
  have HA := (show Hid _ from hca)
  have HB := (show Hid _ from hcb)
  clear hca hcb hna hnb
  go_enter Try.func15, Try.ntmps15
  go_wp2
  generalize hW : (w.alloc (Obj.cells (prc p (Value.slice aa p.out.length ca)).toArray 36)).alloc (Obj.cells (prc p (Value.slice ab p.out.length cb)).toArray 36) = W
  have HW : Hid (Below w.heap.size w W) := by rw [← hW]; exact ((Below.refl _ _).alloc (Nat.le_refl _) _).alloc (by simp) _
  have ha5 : W.cell? ⟨w.heap.size, 5, none⟩ = some (.slice aa p.out.length ca) := by rw [← hW]; simp [go_sem]
  have hb5 : W.cell? ⟨w.heap.size + 1, 5, none⟩ = some (.slice ab p.out.length cb) := by rw [← hW]; simp [go_sem]
  clear hW hnn
  go_loopg [5] p.out.length (fun g i wr => ∃ j q : Nat, j ≤ p.out.length ∧ i = .int .i64 j ∧ g = p.out.length - j ∧ wr = W.drewN q)
  case atStart => exact ⟨0, 0, Nat.zero_le _, rfl, rfl, rfl⟩
  case round =>
    obtain ⟨j, q, hj, rfl, rfl, rfl⟩ := hrel
    by_cases hlt : j < p.out.length
    · obtain ⟨b1, o1, rfl, _, h1⟩ := HA.out j hlt
      obtain ⟨b2, o2, rfl, _, h2⟩ := HB.out j hlt
      replace h1 := cell_later HW.out h1
      replace h2 := cell_later HW.out h2
      clear HA HB
      generalize p.out[j] = s at *
      go_wp2
      go_quiet (fail)
      go_wp2
      go_roundg (p.out.length - (j + 1))
      case measure => omega
      case rel => exact ⟨j + 1, _, by omega, by go_num, rfl, rfl⟩
    · go_wp2
      exact hR.out _ _ ⟨rfl, HW.out.trans (Below.of_drewN _)⟩
end Go.Proofs.Qxb6600401a
