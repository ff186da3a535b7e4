/-
  The walks of Version.String (4), of zzReadsAsVersion (5) at what it gives, and of the law (3).
-/
import Derived.Test.Qxb6618402aDoorReads
import Derived.Test.Qxb6618402aDoorPlain
import Derived.Lib.LaidTab
import Derived.Laws.Concat
namespace Go.Proofs.Qxb6618402aDoor
open Go.RowKit

/-- The name of strconv's table of powers of ten, off the given row. -/
def tabName : String := Rows.fnVersionStringDigitsAndSignRow.named.headD ""
def Tab (w : World) : Prop := Lib.TabIs Tryd.prog w tabName .u64 Lib.pow10Tab
theorem Tab.below {w w' : World} (h : Tab w) (hb : Below w.heap.size w w') : Tab w' := by
  unfold Tab Lib.TabIs World.var? at *
  cases hg : Tryd.prog.globalNamed tabName with
  | none => simp [hg] at h
  | some g =>
    simp only [hg, Option.bind_some] at h ⊢
    have hlt : g < w.heap.size := by
      rcases Nat.lt_or_ge g w.heap.size with h' | h'
      · exact h'
      · rw [Array.getElem?_eq_none h'] at h; simp at h
    rw [hb.block g hlt]
    exact h

/-- What is asked of strconv.Itoa (function 6). -/
def ItoaC : Prop := ∀ (n : Int) (_ : -9223372036854775808 ≤ n) (_ : n ≤ 9223372036854775807) (w : World) (_ : Tab w), Calls Tryd.prog 6 #[.int .i64 n] w fun e w' => e = .returned (.string (itB n)) ∧ Below w.heap.size w w'

set_option maxHeartbeats 400000 in
theorem str_any (H6 : ItoaC) (v : Int) (w : World) (h0 : -9223372036854775808 ≤ v) (h1 : v ≤ 9223372036854775807) (hT : Tab w) :
    Calls Tryd.prog 4 #[.int .i64 v] w fun e w' => e = .returned (.string (verS v)) ∧ Below w.heap.size w w' := by
  have hsz := itB_le v h0 h1
  go_enter Tryd.func4, Tryd.ntmps4
  go_wp2_with (go_at_call 6; refine (H6 _ h0 h1 _ hT).mono ?_; rintro e w' ⟨rfl, hb⟩)
  go_ret
  exact ⟨rfl, hb⟩

theorem reads_any (v : Int) (w : World) (h0 : -9223372036854775808 ≤ v) (h1 : v ≤ 9223372036854775807) :
    Calls Tryd.prog 5 #[.string (verS v), .int .i64 v] w fun e w' => e = .returned (.bool true) ∧ w' = w := by
  have hsz := itB_le v h0 h1
  have hp := itB_pos v
  have hv := verS_size v
  rcases Int.lt_or_le v 0 with hn | hn
  · obtain ⟨u, rfl⟩ : ∃ u : Nat, v = -(u : Int) := ⟨v.natAbs, by omega⟩
    have hu : 1 ≤ u := by omega
    have hs := itB_neg u hu
    have hn1 := Lib.nDigits_pos u
    refine reads_neg (verS (-(u : Int))) (itB (-(u : Int))) _ (fun k => dgt u (k - 1)) (fun k => pre u (k - 1)) w (by omega) (by omega) (verS_tail _) (verS_head _) (by omega) (by omega) (by omega) ?_ ?_ ?_ ?_ ?_ ?_ ?_
    · rw [neg_get0 u hu]; rfl
    · rw [neg_get u 1 hu (Nat.le_refl _)]
      have := dgt_first u hu
      simp; omega
    · intro k hk hlt
      obtain ⟨j, rfl⟩ : ∃ j, k = j + 1 := ⟨k - 1, by omega⟩
      exact pre_succ u j (by omega)
    · intro k hk hlt
      exact ⟨neg_get u k hu hk hlt, dgt_le _ _⟩
    · intro k _ _
      exact Nat.le_trans (pre_le _ _) (by omega)
    · exact pre_zero u
    · show -(u : Int) = -((pre u ((itB (-(u : Int))).size - 1) : Nat) : Int)
      rw [hs, Nat.add_sub_cancel, pre_all]
  · obtain ⟨u, rfl⟩ : ∃ u : Nat, v = (u : Int) := ⟨v.toNat, by omega⟩
    have hs := itB_nonneg u
    have hg := pos_get u 0 (by omega)
    refine reads_pos (verS (u : Int)) (itB (u : Int)) _ (fun k => dgt u k) (fun k => pre u k) w (by omega) (by omega) (verS_tail _) (verS_head _) (by omega) (by omega) ?_ ?_ ?_ ?_ ?_ ?_ ?_ hn h1
    · rw [hg]; simp; omega
    · rw [hg]
      rcases Nat.eq_zero_or_pos u with rfl | hu
      · right
        refine ⟨by decide +kernel, ?_⟩
        rw [verS_size, hs]; decide +kernel
      · left
        have := dgt_first u hu
        simp; omega
    · intro k hlt
      exact pre_succ u k (by omega)
    · intro k hlt
      exact ⟨pos_get u k hlt, dgt_le _ _⟩
    · intro k _
      exact Nat.le_trans (pre_le _ _) (by omega)
    · exact pre_zero u
    · show (u : Int) = ((pre u (itB (u : Int)).size : Nat) : Int)
      rw [hs, pre_all]

end Go.Proofs.Qxb6618402aDoor
