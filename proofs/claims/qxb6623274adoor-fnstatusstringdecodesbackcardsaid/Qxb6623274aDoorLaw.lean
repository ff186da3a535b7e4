/-
  The walks of Status.String (4), of zzDecodeStatus (5) at what it gives, and of the law (3).
-/
import Derived.Test.Qxb6623274aDoorDecode
import Derived.Test.Qxb6623274aDoorPlain
import Derived.Lib.LaidTab
import Derived.Laws.Concat
namespace Go.Proofs.Qxb6623274aDoor
open Go.RowKit

/-- The name of strconv's table of powers of ten, off the given row. -/
def tabName : String := Rows.fnStatusStringDecodesBackRow.named.headD ""
def Tab (w : World) : Prop := Lib.TabIs Tryd.prog w tabName .u64 Lib.pow10Tab
/-- What is asked of strconv.Itoa (function 6). -/
def ItoaC : Prop := ∀ (n : Int) (_ : -9223372036854775808 ≤ n) (_ : n ≤ 9223372036854775807) (w : World) (_ : Tab w), Calls Tryd.prog 6 #[.int .i64 n] w fun e w' => e = .returned (.string (itB n)) ∧ Below w.heap.size w w'

set_option maxHeartbeats 400000 in
theorem str_num (H6 : ItoaC) (u : Nat) (w : World) (h0 : 3 ≤ u) (h1 : u ≤ 255) (hT : Tab w) :
    Calls Tryd.prog 4 #[.int .u8 u] w fun e w' => e = .returned (.string (stS u)) ∧ Below w.heap.size w w' := by
  have hsz : (itB (u : Int)).size ≤ 3 := by rw [itB_nonneg]; exact nDigits_byte u h1
  have e0 : ((u : Int) == 0) = false := by simp; omega
  have e1 : ((u : Int) == 1) = false := by simp; omega
  have e2 : ((u : Int) == 2) = false := by simp; omega
  go_enter Tryd.func4, Tryd.ntmps4
  go_wp2_with (go_at_call 6; refine (H6 _ (by omega) (by omega) _ hT).mono ?_; rintro e w' ⟨rfl, hb⟩)
  go_ret
  exact ⟨rfl, hb⟩

theorem decode_any (u : Nat) (w : World) (h0 : 3 ≤ u) (h1 : u ≤ 255) :
    Calls Tryd.prog 5 #[.string (stS u)] w fun e w' => e = .returned (.tuple #[.int .i64 u, .bool true]) ∧ w' = w := by
  have hs := itB_nonneg u
  have hd := nDigits_byte u h1
  have hp := itB_pos (u : Int)
  have hz := stS_size u
  have hg := pos_get u 0 (by omega)
  refine decode_num (stS u) (itB (u : Int)) u (fun k => dgt u k) (fun k => pre u k) w (by omega) (by omega) (stS_mid u) (stS_head u) (stS_not u _ _ (by decide)) (stS_not u _ _ (by decide)) (stS_not u _ _ (by decide)) (by omega) ?_ (by omega) (by omega) ?_ ?_ ?_ ?_ ?_ ?_ h0
  · rw [stS_last]; rfl
  · rw [hg]
    have := dgt_first u (by omega)
    simp; omega
  · intro k hlt
    exact pre_succ u k (by omega)
  · intro k hlt
    exact ⟨pos_get u k hlt, dgt_le _ _⟩
  · intro k _
    exact Nat.le_trans (pre_le _ _) (by omega)
  · exact pre_zero u
  · show u = pre u (itB (u : Int)).size
    rw [hs, pre_all]

set_option maxHeartbeats 400000 in
theorem law_num (H6 : ItoaC) (u : Nat) (w : World) (h0 : 3 ≤ u) (h1 : u ≤ 255) (hT : Tab w) :
    Calls Tryd.prog 3 #[.int .u8 u] w fun e w' => e = .returned (.bool true) ∧ Below w.heap.size w w' := by
  go_enter Tryd.func3, Tryd.ntmps3
  go_wp2_with fail
  refine (str_num H6 u _ h0 h1 hT).mono ?_
  rintro e w1 ⟨rfl, hb1⟩
  go_wp2_with fail
  refine (decode_any u _ h0 h1).mono ?_
  rintro e w2 ⟨rfl, rfl⟩
  go_wp2_with fail
  go_ret
  exact ⟨rfl, hb1⟩

set_option maxHeartbeats 400000 in
theorem law_named (x : Int) (w : World) (h : x = 0 ∨ x = 1 ∨ x = 2) :
    Calls Tryd.prog 3 #[.int .u8 x] w fun e w' => e = .returned (.bool true) ∧ Below w.heap.size w w' := by
  rcases h with rfl | rfl | rfl
  all_goals
    go_enter Tryd.func3, Tryd.ntmps3
    go_wp2
    go_ret
    exact ⟨rfl, Below.refl _ _⟩

/-- THE LAW RETURNS true, WHATEVER THE BYTE. -/
theorem law_any (H6 : ItoaC) (x : Int) (w : World) (h0 : 0 ≤ x) (h1 : x ≤ 255) (hT : Tab w) :
    Calls Tryd.prog 3 #[.int .u8 x] w fun e w' => e = .returned (.bool true) ∧ Below w.heap.size w w' := by
  by_cases h : 3 ≤ x
  · obtain ⟨u, rfl⟩ : ∃ u : Nat, x = (u : Int) := ⟨x.toNat, by omega⟩
    exact law_num H6 u w (by omega) (by omega) hT
  · exact law_named x w (by omega)
end Go.Proofs.Qxb6623274aDoor
