/-
  OPERATIONS ON BYTES AND STRINGS, MET BY THEIR TEXT: append to an own row within its capacity, string(b), []byte(s).
-/
import Derived.Test.Qxb6600663aBase
namespace Go.Proofs.Qxb6600663a
open Go.RowKit

theorem info_5 : ∃ i, Try.prog.info? 5 = some i ∧ i.zero = some (.int .u8 0) ∧ i.size = 1 ∧ i.bytes = 1 := by
  have h : (Try.prog.info? 5).map (fun i => (i.zero, i.size, i.bytes)) = some (some (.int .u8 0), 1, 1) := by kernel_rfl
  obtain ⟨i, hi, hzz⟩ := Option.map_eq_some_iff.1 h
  simp only [Prod.mk.injEq] at hzz
  exact ⟨i, hi, hzz.1, hzz.2.1, hzz.2.2⟩

/-- A byte as a value. -/
def bv (c : Nat) : Value := .int .u8 (c : Int)
theorem bv_one (l : List Nat) : ∀ u ∈ l.map bv, u.oneCell' = true := by
  intro u hu
  obtain ⟨_, _, rfl⟩ := List.mem_map.1 hu
  rfl

section
variable {ops : Array Oper} {rest : List Oper} {dst : Option Tmp} {ty : TypeId} {pos : String} {after : Array Edge} {a : Act} {w : World} {Q : Exit → Act → World → Prop}

/-- append(buf, ..) within the capacity: bytes. -/
theorem app_bytes (s x : Operand)
    (H : ∃ (base g cap : Nat) (xs : List Nat) (ad : Addr) (m c : Nat) (news : List Nat), a.eval s = .slice (some ⟨g, 0, none⟩) xs.length cap ∧ w.ownsRow base 5 1 (.slice (some ⟨g, 0, none⟩) xs.length cap) xs.length (xs.map bv) ∧ a.eval x = .slice (some ad) m c ∧ news.length = m ∧
      (∀ j u, (news.map bv)[j]? = some u → w.cell? (ad.add j) = some u) ∧ xs.length + m ≤ cap ∧
      ∀ w', w'.ownsRow base 5 1 (.slice (some ⟨g, 0, none⟩) (xs ++ news).length cap) (xs ++ news).length ((xs ++ news).map bv) → w.grownBy w' (some g) → wpList Try.prog ops Q rest (a.put dst (.slice (some ⟨g, 0, none⟩) (xs.length + m) cap)) w') :
    wpList Try.prog ops Q ({ dst := dst, op := .call { callee := Callee.builtin Builtin.append, args := #[s, x], argTypes := #[25, 25] }, type := ty, pos := pos, after := after, guard := none } :: rest) a w := by
  obtain ⟨base, g, cap, xs, ad, m, c, news, hs, hown, hx, hn, hc, hb, hK⟩ := H
  obtain ⟨i, hi, _, hsize, _⟩ := info_5
  refine wpList_append_fits w rfl s x 25 rfl base 5 i 1 Try.underlying25 hi hsize g xs.length cap (xs.map bv) hs hown ad m c (news.map bv) hx (by simp [hn]) hc (bv_one news) hb ?_
  intro w' h1 h2
  refine hK w' ?_ h2
  have e : (xs ++ news).length = xs.length + m := by simp [hn]
  rw [e, List.map_append]
  exact h1

/-- string(b). -/
theorem conv_str (x : Operand)
    (H : ∃ (ad : Addr) (n cap : Nat) (l : List UInt8), a.eval x = .slice (some ad) n cap ∧ l.length = n ∧ (∀ j (hj : j < l.length), w.cell? (ad.add j) = some (.int .u8 (l[j].toNat : Int))) ∧
      wpList Try.prog ops Q rest (a.put dst (.string ⟨l.toArray⟩)) w) :
    wpList Try.prog ops Q ({ dst := dst, op := .convert 25 9 x, type := ty, pos := pos, after := after, guard := none } :: rest) a w := by
  obtain ⟨ad, n, cap, l, hx, rfl, hc, hK⟩ := H
  have hrun := run_convert_bytes_back (P := Try.prog) w 25 9 5 ad cap l Try.underlying25 Try.underlying5 Try.underlying9 hc
  refine wpList_plain rfl fun K hK' => ?_
  unfold Oper.wp
  simp [execOp, hx, hrun, Result.andThen]
  exact hK' _ _ hK

/-- []byte(s). -/
theorem conv_bytes (x : Operand)
    (H : ∃ s : ByteArray, a.eval x = .string s ∧ ∀ w' cap, Below w.heap.size w w' → w.heap.size < w'.heap.size → (∀ j (h : j < s.size), w'.cell? ⟨w.heap.size, j, none⟩ = some (.int .u8 (s[j].toNat : Int))) → (∀ j, j < s.size → w'.frozen? ⟨w.heap.size, j, none⟩ = false) →
      wpList Try.prog ops Q rest (a.put dst (.slice (some ⟨w.heap.size, 0, none⟩) s.size cap)) w') :
    wpList Try.prog ops Q ({ dst := dst, op := .convert 9 25 x, type := ty, pos := pos, after := after, guard := none } :: rest) a w := by
  obtain ⟨s, hx, hK⟩ := H
  have hrun := run_bytes_of_string (P := Try.prog) w 9 25 5 s Try.underlying9 Try.underlying25 Try.underlying5
  refine wpList_plain rfl fun K hK' => ?_
  unfold Oper.wp
  simp [execOp, hx, hrun, Result.andThen]
  refine hK' _ _ (hK _ _ ((Below.refl _ _).drew.alloc (Nat.le_refl _) _) (by simp) (fun j hj => ?_) (fun j hj => ?_))
  · have := World.cell?_alloc_mark w.drew (bytesRow s (grownCap w s.size 0 5)) 5 ((bytesRow s (grownCap w s.size 0 5)).size, (bytesRow s (grownCap w s.size 0 5)).size + 1) j
    rw [bytesRow_at _ _ _ hj] at this
    exact this
  · have := World.frozen?_alloc_mark w.drew (bytesRow s (grownCap w s.size 0 5)) 5 (bytesRow s (grownCap w s.size 0 5)).size ((bytesRow s (grownCap w s.size 0 5)).size + 1) j
    refine Eq.trans this ?_
    have hsz : s.size ≤ (bytesRow s (grownCap w s.size 0 5)).size := by unfold bytesRow; simp
    simp
    omega
end

end Go.Proofs.Qxb6600663a
