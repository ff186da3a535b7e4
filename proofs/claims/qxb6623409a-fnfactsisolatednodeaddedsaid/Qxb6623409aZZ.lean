/-
  The walk of ZZFacts (6).
-/
import Derived.Test.Qxb6623409aFacts
namespace Go.Proofs.Qxb6623409a
open Go.RowKit

/-- The six facts, as Go hands them over. -/
def facV (n0 n1 n3 : Nat) (z0 z3 : List Int) : Value := .agg #[.int .i64 (n0 - 1), .int .i64 (n1 / 2), .int .i64 n3, .int .i64 (Lib.maxOf (z3.take n3)), .int .i64 (mins z0 (n0 - 1)), .int .i64 (maxs z0 (n0 - 1))]
theorem bcell {W w1 : World} {B : Nat} (hb : Below B W w1) : (∀ b o, b < B → w1.cell? ⟨b, o, none⟩ = W.cell? ⟨b, o, none⟩) ∧ (∀ b o, b < B → w1.frozen? ⟨b, o, none⟩ = W.frozen? ⟨b, o, none⟩) :=
  ⟨fun b o h => hb.cell (p := ⟨b, o, none⟩) h, fun b o h => hb.frozen (p := ⟨b, o, none⟩) h⟩

set_option maxHeartbeats 1000000 in
theorem zz_any (b0 n0 c0 : Nat) (z0 : List Int) (a1 : Option Addr) (n1 c1 : Nat) (a2 : Option Addr) (n2 c2 b3 n3 c3 : Nat) (z3 : List Int) (w : World)
    (m0 : ∀ j, j < n0 → w.cell? ⟨b0, j, none⟩ = some (.int .i64 (z0.getD j 0))) (m3 : ∀ j, j < z3.length → w.cell? ⟨b3, j, none⟩ = some (.int .i64 (z3.getD j 0))) (l3 : n3 ≤ z3.length)
    (h0 : 2 ≤ n0) (h0' : n0 ≤ 1048576) (h1 : n1 ≤ 1048576) (h3 : 1 ≤ n3) (h3' : n3 ≤ 1048576) :
    Calls Try.prog 6 #[.slice (some ⟨b0, 0, none⟩) n0 c0, .slice a1 n1 c1, .slice a2 n2 c2, .slice (some ⟨b3, 0, none⟩) n3 c3] w fun e w' => e = .returned (facV n0 n1 n3 z0 z3) ∧ Below w.heap.size w w' := by
  have HM0 : Hid (∀ j, j < n0 → w.cell? ⟨b0, j, none⟩ = some (.int .i64 (z0.getD j 0))) := m0
  have HM3 : Hid (∀ j, j < z3.length → w.cell? ⟨b3, j, none⟩ = some (.int .i64 (z3.getD j 0))) := m3
  clear m0 m3
  go_enter Try.func6, Try.ntmps6
  go_wp2_with fail
  refine (facts_any (w.heap.size + 1) b0 n0 c0 z0 a1 n1 c1 b3 n3 c3 z3 _ ?_ h0 h0' h1 h3 h3').mono ?_
  · exact ⟨by simp, by simp, by simp, fun j hj => cell_later (bel2 _ _ _) (HM0.out j hj), fun j hj => cell_later (bel2 _ _ _) (HM3.out j hj), l3⟩
  · rintro e w1 ⟨rfl, hb1⟩
    obtain ⟨hc, hf⟩ := bcell hb1
    simp at hc hf
    have HB : Hid (Below w.heap.size w w1) := (bel2 _ _ _).trans (hb1.mono (by simp; omega))
    clear hb1
    have q0 : w1.cell? ⟨w.heap.size, 0, none⟩ = some (.int .i64 0) := by rw [hc _ _ (by omega)]; simp
    have q1 : w1.cell? ⟨w.heap.size, 1, none⟩ = some (.int .i64 0) := by rw [hc _ _ (by omega)]; simp
    have q2 : w1.cell? ⟨w.heap.size, 2, none⟩ = some (.int .i64 0) := by rw [hc _ _ (by omega)]; simp
    have q3 : w1.cell? ⟨w.heap.size, 3, none⟩ = some (.int .i64 0) := by rw [hc _ _ (by omega)]; simp
    have q4 : w1.cell? ⟨w.heap.size, 4, none⟩ = some (.int .i64 0) := by rw [hc _ _ (by omega)]; simp
    have q5 : w1.cell? ⟨w.heap.size, 5, none⟩ = some (.int .i64 0) := by rw [hc _ _ (by omega)]; simp
    go_wp2
    refine bodyPost_ret (v := facV n0 n1 n3 z0 z3) (by simp [results, Try.results6, go_sem, facV, q0, q1, q2, q3, q4, q5]) rfl ⟨rfl, ?_⟩
    exact (((((HB.out.setCell (Nat.le_refl _) _).setCell (Nat.le_refl _) _).setCell (Nat.le_refl _) _).setCell (Nat.le_refl _) _).setCell (Nat.le_refl _) _).setCell (Nat.le_refl _) _
end Go.Proofs.Qxb6623409a
