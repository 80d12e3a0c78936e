/-
  zzHexChar (13), zzHyphenPos (14).
-/
import Derived.Test.Qxb6600663aUuid
namespace Go.Proofs.Qxb6600663a
open Go.RowKit

theorem sixteen {v : Int} (h0 : 0 ≤ v) (h1 : v ≤ 15) : v = 0 ∨ v = 1 ∨ v = 2 ∨ v = 3 ∨ v = 4 ∨ v = 5 ∨ v = 6 ∨ v = 7 ∨ v = 8 ∨ v = 9 ∨ v = 10 ∨ v = 11 ∨ v = 12 ∨ v = 13 ∨ v = 14 ∨ v = 15 := by omega

set_option maxHeartbeats 1000000 in
theorem hexChar_any (v : Int) (up : Bool) (w : World) (h0 : 0 ≤ v) (h1 : v ≤ 15) :
    Calls Try.prog 13 #[.int .i64 v, .bool up] w fun e w' => ∃ c : Nat, e = .returned (.int .u8 (c : Int)) ∧ w' = w ∧ isHex c := by
  refine hideR fun R' hR => ?_
  rcases sixteen h0 h1 with rfl | rfl | rfl | rfl | rfl | rfl | rfl | rfl | rfl | rfl | rfl | rfl | rfl | rfl | rfl | rfl
  all_goals
    clear h0 h1
    cases up
    all_goals
      go_enter Try.func13, Try.ntmps13
      go_wp2
      first
        | exact hR.out _ _ ⟨48, rfl, rfl, by unfold isHex; omega⟩
        | exact hR.out _ _ ⟨49, rfl, rfl, by unfold isHex; omega⟩
        | exact hR.out _ _ ⟨50, rfl, rfl, by unfold isHex; omega⟩
        | exact hR.out _ _ ⟨51, rfl, rfl, by unfold isHex; omega⟩
        | exact hR.out _ _ ⟨52, rfl, rfl, by unfold isHex; omega⟩
        | exact hR.out _ _ ⟨53, rfl, rfl, by unfold isHex; omega⟩
        | exact hR.out _ _ ⟨54, rfl, rfl, by unfold isHex; omega⟩
        | exact hR.out _ _ ⟨55, rfl, rfl, by unfold isHex; omega⟩
        | exact hR.out _ _ ⟨56, rfl, rfl, by unfold isHex; omega⟩
        | exact hR.out _ _ ⟨57, rfl, rfl, by unfold isHex; omega⟩
        | exact hR.out _ _ ⟨65, rfl, rfl, by unfold isHex; omega⟩
        | exact hR.out _ _ ⟨66, rfl, rfl, by unfold isHex; omega⟩
        | exact hR.out _ _ ⟨67, rfl, rfl, by unfold isHex; omega⟩
        | exact hR.out _ _ ⟨68, rfl, rfl, by unfold isHex; omega⟩
        | exact hR.out _ _ ⟨69, rfl, rfl, by unfold isHex; omega⟩
        | exact hR.out _ _ ⟨70, rfl, rfl, by unfold isHex; omega⟩
        | exact hR.out _ _ ⟨97, rfl, rfl, by unfold isHex; omega⟩
        | exact hR.out _ _ ⟨98, rfl, rfl, by unfold isHex; omega⟩
        | exact hR.out _ _ ⟨99, rfl, rfl, by unfold isHex; omega⟩
        | exact hR.out _ _ ⟨100, rfl, rfl, by unfold isHex; omega⟩
        | exact hR.out _ _ ⟨101, rfl, rfl, by unfold isHex; omega⟩
        | exact hR.out _ _ ⟨102, rfl, rfl, by unfold isHex; omega⟩

set_option maxHeartbeats 1000000 in
theorem hyphenPos_any (k : Nat) (hk : k < 4) (w : World) :
    Calls Try.prog 14 #[.int .i64 k] w fun e w' => ∃ c : Nat, e = .returned (.int .i64 (c : Int)) ∧ w' = w ∧ hyph c := by
  refine hideR fun R' hR => ?_
  rcases (show k = 0 ∨ k = 1 ∨ k = 2 ∨ k = 3 by omega) with rfl | rfl | rfl | rfl
  all_goals
    clear hk
    go_enter Try.func14, Try.ntmps14
    go_wp2
    first
      | exact hR.out _ _ ⟨8, rfl, rfl, by unfold hyph; omega⟩
      | exact hR.out _ _ ⟨13, rfl, rfl, by unfold hyph; omega⟩
      | exact hR.out _ _ ⟨18, rfl, rfl, by unfold hyph; omega⟩
      | exact hR.out _ _ ⟨23, rfl, rfl, by unfold hyph; omega⟩
end Go.Proofs.Qxb6600663a
