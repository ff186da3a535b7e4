/-
  The walk of the law (function 3), a theorem a way.
-/
import Derived.Test.Qxb6618402aDoorCalls
namespace Go.Proofs.Qxb6618402aDoor
open Go.RowKit

theorem mir (v : Int) (h : 0 < v) : verS (-v) = (⟨#[118, 101, 114, 115, 105, 111, 110, 32, 45]⟩ : ByteArray) ++ itB v := by
  obtain ⟨u, rfl⟩ : ∃ u : Nat, v = (u : Int) := ⟨v.toNat, by omega⟩
  exact mirror u (by omega)
theorem mir_neg (v : Int) (h : v < 0) : verS v = (⟨#[118, 101, 114, 115, 105, 111, 110, 32, 45]⟩ : ByteArray) ++ itB (-v) := by
  have := mir (-v) (by omega)
  rwa [Int.neg_neg] at this

set_option maxHeartbeats 400000 in
theorem law_big (H6 : ItoaC) (v : Int) (w : World) (h0 : 10 ≤ v) (h1 : v ≤ 9223372036854775807) (hT : Tab w) :
    Calls Tryd.prog 3 #[.int .i64 v] w fun e w' => e = .returned (.bool true) ∧ Below w.heap.size w w' := by
  have hl : -9223372036854775808 ≤ v := by omega
  have hq : v.tdiv 10 = v / 10 := Int.tdiv_eq_ediv_of_nonneg (by omega)
  have hz := tens_size v (Or.inl h0)
  have hcut := tens_cut v (Or.inl h0)
  rw [hq] at hz hcut
  have hb := verS_le v hl h1
  have hb8 := verS_ge v
  have hlast : ((((verS v)[(verS v).size - 1]'(Nat.sub_lt (verS_pos v) Nat.one_pos)).toNat : Int) != 48 + v % 10) = false := by
    rw [tens_end v (Or.inl h0)]
    simp; omega
  have hz1 : (verS v).size ≤ (verS (v / 10)).size + 1 := by omega
  have hz2 : (verS (v / 10)).size + 1 ≤ (verS v).size := by omega
  have htail := verS_tail v
  have hib := itB_le v hl h1
  have hn0 : (v != 0) = true := by simp; omega
  have hnm : (v != -9223372036854775808) = true := by simp; omega
  have hmir := mir v (by omega)
  clear hq hz
  go_enter Tryd.func3, Tryd.ntmps3
  go_wp2_with fail
  refine (str_any H6 _ _ hl h1 hT).mono ?_
  rintro e w1 ⟨rfl, hb1⟩
  go_wp2_with fail
  refine (reads_any _ _ hl h1).mono ?_
  rintro e w2 ⟨rfl, rfl⟩
  go_wp2_with fail
  refine (str_any H6 _ _ (by omega) (by omega) (hT.below hb1)).mono ?_
  rintro e w3 ⟨rfl, hb3⟩
  go_wp2_with fail
  refine (str_any H6 _ _ (by omega) (by omega) ((hT.below hb1).below hb3)).mono ?_
  rintro e w4 ⟨rfl, hb4⟩
  go_wp2_with fail
  go_ret
  exact ⟨rfl, hb1.trans ((hb3.mono hb1.size).trans (hb4.mono (Nat.le_trans hb1.size hb3.size)))⟩

theorem tdiv_neg (v : Int) (h0 : v ≤ -10) (hl : -9223372036854775808 ≤ v) : -922337203685477581 ≤ v.tdiv 10 ∧ v.tdiv 10 ≤ -1 := by
  obtain ⟨u, rfl⟩ : ∃ u : Nat, v = -(u : Int) := ⟨v.natAbs, by omega⟩
  rw [Int.neg_tdiv, Int.tdiv_eq_ediv_of_nonneg (by omega)]
  omega
theorem tmod_neg (v : Int) (h0 : v ≤ -10) : -9 ≤ v.tmod 10 ∧ v.tmod 10 ≤ 0 ∧ ((v.natAbs % 10 : Nat) : Int) = -(v.tmod 10) := by
  obtain ⟨u, rfl⟩ : ∃ u : Nat, v = -(u : Int) := ⟨v.natAbs, by omega⟩
  rw [Int.neg_tmod, Int.tmod_eq_emod_of_nonneg (by omega)]
  omega
theorem last_neg (v : Int) (h0 : v ≤ -10) : ((((verS v)[(verS v).size - 1]'(Nat.sub_lt (verS_pos v) Nat.one_pos)).toNat : Int) != 48 + -(v.tmod 10)) = false := by
  have := (tmod_neg v h0).2.2
  rw [tens_end v (Or.inr h0)]
  simp; omega
theorem last_zero (v : Int) (h0 : v ≤ -10) (hr : 0 ≤ v.tmod 10) : ((((verS v)[(verS v).size - 1]'(Nat.sub_lt (verS_pos v) Nat.one_pos)).toNat : Int) != 48 + v.tmod 10) = false := by
  have := tmod_neg v h0
  rw [tens_end v (Or.inr h0)]
  simp; omega

theorem lists_neg (v : Int) (h : v < 0) : ((verS v).toList == ((⟨#[118, 101, 114, 115, 105, 111, 110, 32, 45]⟩ : ByteArray) ++ itB (-v)).toList) = true := by
  rw [mir_neg v h]; simp

set_option maxHeartbeats 1000000 in
theorem law_neg (H6 : ItoaC) (v : Int) (w : World) (h0 : v ≤ -10) (h1 : -9223372036854775807 ≤ v) (hT : Tab w) :
    Calls Tryd.prog 3 #[.int .i64 v] w fun e w' => e = .returned (.bool true) ∧ Below w.heap.size w w' := by
  have hl : -9223372036854775808 ≤ v := by omega
  have hb := verS_le v hl (by omega)
  have hb8 := verS_ge v
  have hb8n := verS_ge (-v)
  have hbn := verS_le (-v) (by omega) (by omega)
  have hz1 : (verS v).size ≤ (verS (v.tdiv 10)).size + 1 := Nat.le_of_eq (tens_size v (Or.inr h0))
  have hz2 : (verS (v.tdiv 10)).size + 1 ≤ (verS v).size := Nat.le_of_eq (tens_size v (Or.inr h0)).symm
  have hcut := tens_cut v (Or.inr h0)
  have htail := verS_tail (-v)
  have hib := itB_le (-v) (by omega) (by omega)
  have hn0 : (v != 0) = true := by simp; omega
  have hnm : (v != -9223372036854775808) = true := by simp; omega
  have hmir := lists_neg v (by omega)
  obtain ⟨hd1, hd2⟩ := tdiv_neg v h0 hl
  obtain ⟨hm1, hm2, _⟩ := tmod_neg v h0
  have hlast := last_neg v h0
  have HZ : Hid (0 ≤ v.tmod 10 → _) := last_zero v h0
  by_cases hr : v.tmod 10 < 0
  · clear HZ
    go_enter Tryd.func3, Tryd.ntmps3
    go_wp2_with fail
    refine (str_any H6 _ _ hl (by omega) hT).mono ?_
    rintro e w1 ⟨rfl, hb1⟩
    go_wp2_with fail
    refine (reads_any _ _ hl (by omega)).mono ?_
    rintro e w2 ⟨rfl, rfl⟩
    go_wp2_with fail
    refine (str_any H6 _ _ (by omega) (by omega) (hT.below hb1)).mono ?_
    rintro e w3 ⟨rfl, hb3⟩
    go_wp2_with fail
    refine (str_any H6 _ _ (by omega) (by omega) ((hT.below hb1).below hb3)).mono ?_
    rintro e w4 ⟨rfl, hb4⟩
    go_wp2_with fail
    go_ret
    exact ⟨rfl, hb1.trans ((hb3.mono hb1.size).trans (hb4.mono (Nat.le_trans hb1.size hb3.size)))⟩
  · have hlast0 := HZ.out (by omega)
    clear HZ hlast
    go_enter Tryd.func3, Tryd.ntmps3
    go_wp2_with fail
    refine (str_any H6 _ _ hl (by omega) hT).mono ?_
    rintro e w1 ⟨rfl, hb1⟩
    go_wp2_with fail
    refine (reads_any _ _ hl (by omega)).mono ?_
    rintro e w2 ⟨rfl, rfl⟩
    go_wp2_with fail
    refine (str_any H6 _ _ (by omega) (by omega) (hT.below hb1)).mono ?_
    rintro e w3 ⟨rfl, hb3⟩
    go_wp2_with fail
    refine (str_any H6 _ _ (by omega) (by omega) ((hT.below hb1).below hb3)).mono ?_
    rintro e w4 ⟨rfl, hb4⟩
    go_wp2_with fail
    go_ret
    exact ⟨rfl, hb1.trans ((hb3.mono hb1.size).trans (hb4.mono (Nat.le_trans hb1.size hb3.size)))⟩

set_option maxHeartbeats 1000000 in
theorem law_min (H6 : ItoaC) (v : Int) (w : World) (h0 : v ≤ -9223372036854775808) (hl : -9223372036854775808 ≤ v) (hT : Tab w) :
    Calls Tryd.prog 3 #[.int .i64 v] w fun e w' => e = .returned (.bool true) ∧ Below w.heap.size w w' := by
  have h10 : v ≤ -10 := by omega
  have hb := verS_le v hl (by omega)
  have hb8 := verS_ge v
  have hz1 : (verS v).size ≤ (verS (v.tdiv 10)).size + 1 := Nat.le_of_eq (tens_size v (Or.inr h10))
  have hz2 : (verS (v.tdiv 10)).size + 1 ≤ (verS v).size := Nat.le_of_eq (tens_size v (Or.inr h10)).symm
  have hcut := tens_cut v (Or.inr h10)
  have hn0 : (v != 0) = true := by simp; omega
  have hnm : (v != -9223372036854775808) = false := by simp; omega
  obtain ⟨hd1, hd2⟩ := tdiv_neg v h10 hl
  obtain ⟨hm1, hm2, _⟩ := tmod_neg v h10
  have hlast := last_neg v h10
  have hr : v.tmod 10 < 0 := by
    obtain rfl : v = -9223372036854775808 := by omega
    decide
  go_enter Tryd.func3, Tryd.ntmps3
  go_wp2_with fail
  refine (str_any H6 _ _ hl (by omega) hT).mono ?_
  rintro e w1 ⟨rfl, hb1⟩
  go_wp2_with fail
  refine (reads_any _ _ hl (by omega)).mono ?_
  rintro e w2 ⟨rfl, rfl⟩
  go_wp2_with fail
  refine (str_any H6 _ _ (by omega) (by omega) (hT.below hb1)).mono ?_
  rintro e w3 ⟨rfl, hb3⟩
  go_wp2_with fail
  go_ret
  exact ⟨rfl, hb1.trans (hb3.mono hb1.size)⟩

set_option maxHeartbeats 1000000 in
theorem law_small (H6 : ItoaC) (v : Int) (w : World) (h0 : v < 10) (h1 : -10 < v) (hT : Tab w) :
    Calls Tryd.prog 3 #[.int .i64 v] w fun e w' => e = .returned (.bool true) ∧ Below w.heap.size w w' := by
  have hl : -9223372036854775808 ≤ v := by omega
  have hnm : (v != -9223372036854775808) = true := by simp; omega
  have hb := verS_le v hl (by omega)
  have hb8 := verS_ge v
  have hb8n := verS_ge (-v)
  have hbn := verS_le (-v) (by omega) (by omega)
  rcases Int.lt_trichotomy v 0 with hv | hv | hv
  · have htail := verS_tail (-v)
    have hib := itB_le (-v) (by omega) (by omega)
    have hn0 : (v != 0) = true := by simp; omega
    have hmir := lists_neg v (by omega)
    go_enter Tryd.func3, Tryd.ntmps3
    go_wp2_with fail
    refine (str_any H6 _ _ hl (by omega) hT).mono ?_
    rintro e w1 ⟨rfl, hb1⟩
    go_wp2_with fail
    refine (reads_any _ _ hl (by omega)).mono ?_
    rintro e w2 ⟨rfl, rfl⟩
    go_wp2_with fail
    refine (str_any H6 _ _ (by omega) (by omega) (hT.below hb1)).mono ?_
    rintro e w3 ⟨rfl, hb3⟩
    go_wp2_with fail
    go_ret
    exact ⟨rfl, hb1.trans (hb3.mono hb1.size)⟩
  · have hn0 : (v != 0) = false := by simp; omega
    clear hb8n hbn
    go_enter Tryd.func3, Tryd.ntmps3
    go_wp2_with fail
    refine (str_any H6 _ _ (by omega) (by omega) hT).mono ?_
    rintro e w1 ⟨rfl, hb1⟩
    go_wp2_with fail
    refine (reads_any _ _ (by omega) (by omega)).mono ?_
    rintro e w2 ⟨rfl, rfl⟩
    go_wp2_with fail
    go_ret
    exact ⟨rfl, hb1⟩
  · have htail := verS_tail v
    have hib := itB_le v (by omega) (by omega)
    have hn0 : (v != 0) = true := by simp; omega
    have hmir := mir v (by omega)
    go_enter Tryd.func3, Tryd.ntmps3
    go_wp2_with fail
    refine (str_any H6 _ _ hl (by omega) hT).mono ?_
    rintro e w1 ⟨rfl, hb1⟩
    go_wp2_with fail
    refine (reads_any _ _ hl (by omega)).mono ?_
    rintro e w2 ⟨rfl, rfl⟩
    go_wp2_with fail
    refine (str_any H6 _ _ (by omega) (by omega) (hT.below hb1)).mono ?_
    rintro e w3 ⟨rfl, hb3⟩
    go_wp2_with fail
    go_ret
    exact ⟨rfl, hb1.trans (hb3.mono hb1.size)⟩

/-- THE LAW RETURNS true, WHATEVER v. -/
theorem law_any (H6 : ItoaC) (v : Int) (w : World) (h0 : -9223372036854775808 ≤ v) (h1 : v ≤ 9223372036854775807) (hT : Tab w) :
    Calls Tryd.prog 3 #[.int .i64 v] w fun e w' => e = .returned (.bool true) ∧ Below w.heap.size w w' := by
  by_cases ha : 10 ≤ v
  · exact law_big H6 v w ha h1 hT
  · by_cases hb : v ≤ -10
    · by_cases hc : -9223372036854775807 ≤ v
      · exact law_neg H6 v w hb hc hT
      · exact law_min H6 v w (by omega) h0 hT
    · exact law_small H6 v w (by omega) (by omega) hT
end Go.Proofs.Qxb6618402aDoor
