/-
  The small functions: degree (11), Nodes (9), the bounds on the lengths (5, 7).
-/
import Derived.Test.Qxb6623409aRows
import Derived.WalkKit
import Derived.WalkSpells
import Derived.WalkLawsBesides
import Derived.Deep.QuietTactic
import Derived.BigQuiet
namespace Go.Proofs.Qxb6623409a
open Go.RowKit

/-- The degree of node v, as Go reckons it. -/
def deg (z : List Int) (v : Nat) : Int := wrap64 (z.getD (v + 1) 0 - z.getD v 0)
theorem ret_int {k : IntKind} {a b : Int} (h : a = b) : Ending.returned (.int k a) = .returned (.int k b) := by rw [h]
theorem ret_bool {a b : Bool} (h : a = b) : Ending.returned (.bool a) = .returned (.bool b) := by rw [h]

set_option maxHeartbeats 400000 in
theorem degree_any (G b n c v : Nat) (z : List Int) (w : World) (hg : w.cell? ⟨G, 0, none⟩ = some (.slice (some ⟨b, 0, none⟩) n c)) (hv : v + 1 < n) (hn : n ≤ 1048576)
    (hc : ∀ j, j < n → w.cell? ⟨b, j, none⟩ = some (.int .i64 (z.getD j 0))) :
    Calls Try.prog 11 #[.pointer (some ⟨G, 0, none⟩), .int .i64 v] w fun e w' => e = .returned (.int .i64 (deg z v)) ∧ ∃ k, w' = w.drewN k := by
  have h1 : ((v : Int) + 1) < (n : Int) := by omega
  have h2 : (v : Int) < (n : Int) := by omega
  have hc0 := hc v (by omega)
  have hc1 := hc (v + 1) hv
  clear hc
  go_enter Try.func11, Try.ntmps11
  go_wp2
  go_quiet (fail)
  go_wp2
  go_ret
  exact ⟨rfl, _, rfl⟩

set_option maxHeartbeats 400000 in
theorem nodes_any (G n c : Nat) (a : Option Addr) (w : World) (hg : w.cell? ⟨G, 0, none⟩ = some (.slice a n c)) (h0 : 1 ≤ n) (hn : n ≤ 1048576) :
    Calls Try.prog 9 #[.pointer (some ⟨G, 0, none⟩)] w fun e w' => e = .returned (.int .i64 ((n : Int) - 1)) ∧ w' = w := by
  go_enter Try.func9, Try.ntmps9
  go_wp2
  go_ret
  exact ⟨rfl, rfl⟩

/-- The bound on the four lengths. -/
theorem bytes5 (a0 a1 a2 a3 : Option Addr) (n0 c0 n1 c1 n2 c2 n3 c3 : Nat) (w : World) (h0 : n0 ≤ maxLen) (h1 : n1 ≤ maxLen) (h2 : n2 ≤ maxLen) (h3 : n3 ≤ maxLen) :
    Calls Try.prog 5 #[.slice a0 n0 c0, .slice a1 n1 c1, .slice a2 n2 c2, .slice a3 n3 c3] w fun e w' => e = .returned (.bool (decide (n0 + n1 + n2 + n3 ≤ 1048576))) ∧ w' = w := by
  unfold maxLen at h0 h1 h2 h3
  go_enter Try.func5, Try.ntmps5
  go_wp2
  all_goals
    go_ret
    exact ⟨ret_bool (by rw [Bool.eq_iff_iff]; simp only [decide_eq_true_eq, true_iff, Bool.false_eq_true, false_iff]; omega), rfl⟩
theorem bytes7 (a0 a1 a2 a3 : Option Addr) (n0 c0 n1 c1 n2 c2 n3 c3 : Nat) (w : World) (h0 : n0 ≤ maxLen) (h1 : n1 ≤ maxLen) (h2 : n2 ≤ maxLen) (h3 : n3 ≤ maxLen) :
    Calls Try.prog 7 #[.slice a0 n0 c0, .slice a1 n1 c1, .slice a2 n2 c2, .slice a3 n3 c3] w fun e w' => e = .returned (.bool (decide (n0 + n1 + n2 + n3 ≤ 1048576))) ∧ w' = w := by
  unfold maxLen at h0 h1 h2 h3
  go_enter Try.func7, Try.ntmps7
  go_wp2
  all_goals
    go_ret
    exact ⟨ret_bool (by rw [Bool.eq_iff_iff]; simp only [decide_eq_true_eq, true_iff, Bool.false_eq_true, false_iff]; omega), rfl⟩
end Go.Proofs.Qxb6623409a
