/-
  THE WALK OF ZZProcessesB1 (10).
-/
import Derived.Test.Qxb6600401aRun
namespace Go.Proofs.Qxb6600401a
open Go.RowKit

theorem prc_one (x : Pr) (ao : Option Addr) (l c : Nat) : (prc x (.slice ao l c)).toArray.all (·.oneCell') = true := by simp [prc, Value.oneCell']

theorem Try.size36 : (Try.prog.info? 36).map (·.size) = some 7 := by kernel_rfl

/-- The store of a whole process, met by its text. -/
theorem store_pr (x y : Operand) {ops : Array Oper} {rest : List Oper} {dst : Option Tmp} {ty : TypeId} {pos : String} {after : Array Edge} {a : Act} {w : World} {Q : Exit → Act → World → Prop}
    (H : ∃ b o : Nat, ∃ e : Pr, ∃ ao : Option Addr, ∃ l c : Nat, a.eval x = .pointer (some ⟨b, o, none⟩) ∧ a.eval y = .agg (prc e (.slice ao l c)).toArray ∧ w.there b o 7 ∧
      wpList Try.prog ops Q rest (a.put dst undef) (w.setCells b o (prc e (.slice ao l c)))) :
    wpList Try.prog ops Q ({ dst := dst, op := .store 36 x y, type := ty, pos := pos, after := after, guard := none } :: rest) a w := by
  obtain ⟨b, o, e, ao, l, c, hx, hy, ht, h⟩ := H
  exact wpList_store_mid rfl 36 x y rfl b o _ hx hy ht Try.size36 (prc_one _ _ _ _) h

theorem PInv.setAll {t : TypeId} {w0 : World} {G n : Nat} {pr : Nat → Pr} {wr : World} (h : PInv t w0 G n pr wr) {p : Nat} (hp : p < n) (q : Pr) (v : Value) (hv : StrsAt w0 (fun _ => True) v q.nl q.out) :
    PInv t w0 G n (upd pr p q) (wr.setCells G (p * 7) (prc q v)) := by
  refine ⟨Own.setCells _ _ _ _ h.own, fun i hi => ?_⟩
  by_cases e : i = p
  · subst e
    rw [upd_same]
    exact ⟨v, World.rangeAt_setCells_same _ _ _ _ (h.own.there (by simp; omega)), hv⟩
  · obtain ⟨u, hr, hs⟩ := h.procs i hi
    have eu : upd pr p q i = pr i := by simp [upd, e]
    rw [eu]
    exact ⟨u, World.rangeAt_setCells_apart hr _ _ _ (by simp; omega), hs⟩

/-- The first k processes, the others zero. -/
def firstK (pr : Nat → Pr) (k : Nat) : Nat → Pr := fun i => if i < k then pr i else Pr.zero
theorem firstK_step (pr : Nat → Pr) (k i : Nat) : upd (firstK pr k) k (pr k) i = firstK pr (k + 1) i := by
  unfold upd firstK
  by_cases e : i = k
  · subst e; simp
  · by_cases h : i < k
    · rw [if_neg e, if_pos h, if_pos (by omega)]
    · rw [if_neg e, if_neg h, if_neg (by omega)]

theorem PInv.cellsIn {t : TypeId} {w0 : World} {G n : Nat} {pr : Nat → Pr} {w1 wr : World} (h : PInv t w0 G n pr w1) (hB : Below w1.heap.size w1 wr) {p : Nat} (hp : p < n) :
    ∃ ao c, StrsAt w0 (fun _ => True) (.slice ao (pr p).out.length c) (pr p).nl (pr p).out ∧ wr.rangeAt G (p * 7) (prc (pr p) (.slice ao (pr p).out.length c)) ∧ wr.cell? ⟨G, p * 7, none⟩ = some (.string (pr p).name) ∧ wr.cell? ⟨G, p * 7 + 1, none⟩ = some (.bool (pr p).down) ∧ wr.cell? ⟨G, p * 7 + 2, none⟩ = some (.bool (pr p).unst) ∧ wr.cell? ⟨G, p * 7 + 3, none⟩ = some (.bool (pr p).exited) ∧
      wr.cell? ⟨G, p * 7 + 4, none⟩ = some (.bool (pr p).decided) ∧ wr.cell? ⟨G, p * 7 + 5, none⟩ = some (.slice ao (pr p).out.length c) ∧ wr.cell? ⟨G, p * 7 + 6, none⟩ = some (.int .i64 (pr p).since) := by
  obtain ⟨v, hr0, hs⟩ := h.procs p hp
  have hr := rangeAt_below hr0 hB
  obtain ⟨ao, c, rfl, _⟩ := id hs
  exact ⟨ao, c, hs, hr, hr 0 _ rfl, hr 1 _ rfl, hr 2 _ rfl, hr 3 _ rfl, hr 4 _ rfl, hr 5 _ rfl, hr 6 _ rfl⟩

theorem PInv.change {t : TypeId} {w0 w0' : World} {G n : Nat} {wr : World} (h : PInv t w0 G n (fun _ => Pr.zero) wr) : PInv t w0' G n (fun _ => Pr.zero) wr :=
  ⟨h.own, fun i hi => by obtain ⟨v, hr, ao, c, e, hn, _⟩ := h.procs i hi; exact ⟨v, hr, ao, c, e, hn, fun j hj => absurd hj (Nat.not_lt_zero j)⟩⟩

structure ZInv (w w1 : World) (n : Nat) (pr : Nat → Pr) (k : Nat) (wr : World) : Prop where
  below : Below w1.heap.size w1 wr
  tab : PInv 36 w w1.heap.size n (firstK pr k) wr

set_option maxRecDepth 100000 in
set_option maxHeartbeats 2000000 in
theorem zzprocs_any (n : Nat) (b : Nat) (es : List Ev) (cap : Nat) (w : World) (hn : n ≤ 65536) (hl : es.length ≤ 20000) (hin : ∀ i (h : i < es.length), InRange n es[i])
    (hev : ∀ i (h : i < es.length), RcAt w (fun _ => True) b (i * 13) es[i]) :
    Calls Try.prog 10 #[.int .i64 n, .slice (some ⟨b, 0, none⟩) es.length cap] w fun e w' => ∃ B, e = .returned (.slice (some ⟨B, 0, none⟩) n n) ∧ Below w.heap.size w w' ∧ PInv 36 w B n (prOf es) w' := by
  refine hideR fun R' hR => ?_
  have HC := (show Hid _ from fun W => processes_any n b es cap W hn hl hin)
  have HE := (show Hid _ from hev)
  clear hin hev
  generalize prOf es = pr at *
  go_enter Try.func10, Try.ntmps10
  go_wp2_with fail
  refine (HC.out w HE.out).mono ?_
  rintro e w1 ⟨rfl, hrt⟩
  have mk26 := make26 n (by omega)
  have hI : ZInv w w1 n pr 0 _ := ⟨(Below.refl _ _).alloc (Nat.le_refl _) _, (pinv_made 36 w1 n).change.congr (fun _ _ => by simp [firstK])⟩
  generalize ZRow #[.string ⟨#[]⟩, .bool false, .bool false, .bool false, .bool false, .slice none 0 0, .int .i64 0] (n * 7) = c0 at mk26 hI
  have HR := (show Hid _ from hrt)
  clear hrt
  go_wp2
  clear mk26
  go_loopg [7] n (fun g i wr => ∃ k : Nat, k ≤ n ∧ i = .int .i64 k ∧ g = n - k ∧ ZInv w w1 n pr k wr)
  case atStart => exact ⟨0, Nat.zero_le _, rfl, rfl, hI⟩
  case round =>
    clear hI
    obtain ⟨k, hk, rfl, rfl, hI⟩ := hrel
    by_cases hlt : k < n
    · obtain ⟨ao, c, hs, _, c0, c1, c2, c3, c4, c5, c6⟩ := HR.out.tab.cellsIn hI.below hlt
      have HN : Hid (ZInv w w1 n pr (k + 1) ((wr.drew).setCells w1.heap.size (k * 7) (prc (pr k) (.slice ao (pr k).out.length c)))) :=
        ⟨below_setCells _ (Nat.le_refl _) _ _ _ hI.below.drew, (hI.tab.drew.setAll hlt (pr k) _ hs).congr (fun i _ => firstK_step pr k i)⟩
      have HTH : Hid (wr.there w1.heap.size (k * 7) 7) := hI.tab.own.there (by omega)
      clear hI hs
      generalize pr k = q at *
      go_wp2
      go_still_tail 39, Try.mixed
      refine store_pr (.tmp 58) (.tmp 57) ?_
      refine ⟨w1.heap.size, k * 7, q, ao, q.out.length, c, rfl, rfl, HTH.out, ?_⟩
      go_wp2
      go_roundg (n - (k + 1))
      case measure => omega
      case rel => exact ⟨k + 1, by omega, by go_num, rfl, HN.out⟩
    · obtain rfl : k = n := by omega
      have HI := (show Hid _ from hI)
      clear hI
      go_wp2
      exact hR.out _ _ ⟨_, rfl, HR.out.below.trans (HI.out.below.mono HR.out.below.size), HI.out.tab.congr (fun i hi => by simp [firstK, hi])⟩
end Go.Proofs.Qxb6600401a
