/-
  FnFactsIsolatedNodeAdded: every input: the ways out ahead of the copies, and the main one.
-/
import Derived.Test.Qxb6623409aLaw2
namespace Go.Proofs.Qxb6623409a
open Go.RowKit

set_option maxRecDepth 100000 in
set_option maxHeartbeats 1000000 in
theorem law2_early (a0 : Option Addr) (n0 c0 : Nat) (a1 : Option Addr) (n1 c1 : Nat) (a2 : Option Addr) (n2 c2 : Nat) (a3 : Option Addr) (n3 c3 : Nat) (w : World) (m0 : n0 ≤ maxLen) (m1 : n1 ≤ maxLen) (m2 : n2 ≤ maxLen) (m3 : n3 ≤ maxLen)
    (h : ¬ (n0 + n1 + n2 + n3 ≤ 1048576 ∧ n0 ≤ 65536 ∧ n1 ≤ 65536 ∧ n2 ≤ 65536 ∧ n3 ≤ 65536 ∧ 8 * n0 + 4 * n1 + 4 * n2 + 8 * n3 ≤ 1048576 ∧ 2 ≤ n0 ∧ 1 ≤ n3)) :
    Calls Try.prog 4 #[.slice a0 n0 c0, .slice a1 n1 c1, .slice a2 n2 c2, .slice a3 n3 c3] w fun e w' => e = .returned (.bool true) ∧ Below w.heap.size w w' := by
  by_cases hs : n0 + n1 + n2 + n3 ≤ 1048576
  · have hdec : decide (n0 + n1 + n2 + n3 ≤ 1048576) = true := by simpa using hs
    by_cases h0 : n0 ≤ 65536
    · by_cases h1 : n1 ≤ 65536
      · by_cases h2 : n2 ≤ 65536
        · by_cases h3 : n3 ≤ 65536
          · by_cases hb : 8 * n0 + 4 * n1 + 4 * n2 + 8 * n3 ≤ 1048576
            · by_cases hn : 2 ≤ n0
              · have h1' : n3 < 1 := by omega
                clear h
                go_enter Try.func4, Try.ntmps4
                go_wp2_with (go_at_call 7; refine (bytes7 _ _ _ _ _ _ _ _ _ _ _ _ _ m0 m1 m2 m3).mono ?_; rintro e w' ⟨rfl, hw'⟩; obtain rfl := hw'.symm)
                go_ret
                exact ⟨rfl, Below.refl _ _⟩
              · have hn' : n0 < 2 := by omega
                clear h hn
                go_enter Try.func4, Try.ntmps4
                go_wp2_with (go_at_call 7; refine (bytes7 _ _ _ _ _ _ _ _ _ _ _ _ _ m0 m1 m2 m3).mono ?_; rintro e w' ⟨rfl, hw'⟩; obtain rfl := hw'.symm)
                go_ret
                exact ⟨rfl, Below.refl _ _⟩
            · have hb' : 1048576 < 8 * n0 + 4 * n1 + 4 * n2 + 8 * n3 := by omega
              clear h hb
              go_enter Try.func4, Try.ntmps4
              go_wp2_with (go_at_call 7; refine (bytes7 _ _ _ _ _ _ _ _ _ _ _ _ _ m0 m1 m2 m3).mono ?_; rintro e w' ⟨rfl, hw'⟩; obtain rfl := hw'.symm)
              go_ret
              exact ⟨rfl, Below.refl _ _⟩
          · have h3' : 65536 < n3 := by omega
            clear h h3
            go_enter Try.func4, Try.ntmps4
            go_wp2_with (go_at_call 7; refine (bytes7 _ _ _ _ _ _ _ _ _ _ _ _ _ m0 m1 m2 m3).mono ?_; rintro e w' ⟨rfl, hw'⟩; obtain rfl := hw'.symm)
            go_ret
            exact ⟨rfl, Below.refl _ _⟩
        · have h2' : 65536 < n2 := by omega
          clear h h2
          go_enter Try.func4, Try.ntmps4
          go_wp2_with (go_at_call 7; refine (bytes7 _ _ _ _ _ _ _ _ _ _ _ _ _ m0 m1 m2 m3).mono ?_; rintro e w' ⟨rfl, hw'⟩; obtain rfl := hw'.symm)
          go_ret
          exact ⟨rfl, Below.refl _ _⟩
      · have h1' : 65536 < n1 := by omega
        clear h h1
        go_enter Try.func4, Try.ntmps4
        go_wp2_with (go_at_call 7; refine (bytes7 _ _ _ _ _ _ _ _ _ _ _ _ _ m0 m1 m2 m3).mono ?_; rintro e w' ⟨rfl, hw'⟩; obtain rfl := hw'.symm)
        go_ret
        exact ⟨rfl, Below.refl _ _⟩
    · have h0' : 65536 < n0 := by omega
      clear h h0
      go_enter Try.func4, Try.ntmps4
      go_wp2_with (go_at_call 7; refine (bytes7 _ _ _ _ _ _ _ _ _ _ _ _ _ m0 m1 m2 m3).mono ?_; rintro e w' ⟨rfl, hw'⟩; obtain rfl := hw'.symm)
      go_ret
      exact ⟨rfl, Below.refl _ _⟩
  · have hdec : decide (n0 + n1 + n2 + n3 ≤ 1048576) = false := by simpa using hs
    clear h hs
    go_enter Try.func4, Try.ntmps4
    go_wp2_with (go_at_call 7; refine (bytes7 _ _ _ _ _ _ _ _ _ _ _ _ _ m0 m1 m2 m3).mono ?_; rintro e w' ⟨rfl, hw'⟩; obtain rfl := hw'.symm)
    go_ret
    exact ⟨rfl, Below.refl _ _⟩

theorem cut_row2 {w : World} {x : Addr} {n : Nat} {z : List Int} (h : ∀ i, i < z.length → w.cell? (x.add i) = some (.int .i64 (z.getD i 0))) : ∀ i, i < (z.take n).length → w.cell? (x.add i) = some (.int .i64 ((z.take n).getD i 0)) := by
  intro i hi
  rw [List.length_take] at hi
  have hn : i < n := by omega
  have e : (z.take n).getD i 0 = z.getD i 0 := by simp [hn]
  rw [h i (by omega), e]

/-- THE LAW RETURNS true, WHATEVER THE FOUR LISTS. -/
theorem law2_any (a0 : Option Addr) (n0 c0 : Nat) (z0 : List Int) (a1 : Option Addr) (n1 c1 : Nat) (z1 : List Int) (a2 : Option Addr) (n2 c2 : Nat) (z2 : List Int) (a3 : Option Addr) (n3 c3 : Nat) (z3 : List Int) (w : World) (w0 : IsRow .i64 w a0 n0 c0 z0) (w1 : IsRow .i32 w a1 n1 c1 z1) (w2 : IsRow .i32 w a2 n2 c2 z2) (w3 : IsRow .i64 w a3 n3 c3 z3) :
    Calls Try.prog 4 #[.slice a0 n0 c0, .slice a1 n1 c1, .slice a2 n2 c2, .slice a3 n3 c3] w fun e w' => e = .returned (.bool true) ∧ Below w.heap.size w w' := by
  by_cases h : n0 + n1 + n2 + n3 ≤ 1048576 ∧ n0 ≤ 65536 ∧ n1 ≤ 65536 ∧ n2 ≤ 65536 ∧ n3 ≤ 65536 ∧ 8 * n0 + 4 * n1 + 4 * n2 + 8 * n3 ≤ 1048576 ∧ 2 ≤ n0 ∧ 1 ≤ n3
  · obtain ⟨_, h0, h1, h2, h3, hb, hn, hm⟩ := h
    rcases w0 with ⟨_, e, _, _⟩ | ⟨x0, rfl, l0, _, e0, r0, _⟩
    · omega
    rcases w3 with ⟨_, e, _, _⟩ | ⟨x3, rfl, l3, _, e3, r3, _⟩
    · omega
    exact law2_main x0 n0 c0 (z0.take n0) a1 n1 c1 z1 a2 n2 c2 z2 x3 n3 c3 (z3.take n3) w (cut_row2 r0) (by rw [List.length_take]; omega) (by rw [List.length_take]; omega) w1 w2 (cut_row2 r3) (by rw [List.length_take]; omega) (by rw [List.length_take]; omega) h0 h1 h2 h3 hb hn hm
  · exact law2_early a0 n0 c0 a1 n1 c1 a2 n2 c2 a3 n3 c3 w w0.le w1.le w2.le w3.le h
end Go.Proofs.Qxb6623409a
