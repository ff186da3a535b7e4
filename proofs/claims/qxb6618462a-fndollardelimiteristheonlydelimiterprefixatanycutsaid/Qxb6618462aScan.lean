/-
  The walks of dollarDelimiter (7), ZZdollarDelimiter (5) and zzIsDollarDelimiter (6).
-/
import Derived.Test.Qxb6618462aPlain
namespace Go.Proofs.Qxb6618462a
open Go.RowKit

theorem ret_str {a b : ByteArray} (h : a = b) : Ending.returned (.string a) = .returned (.string b) := by rw [h]
theorem end_yes {t : ByteArray} {k : Nat} (hs : scanned t k) (hk : k < t.size) (h : (((t[k]'hk).toNat : Int) == 36) = true) :
    ∃ n, Ending.returned (.string (t.extract 0 (k + 1))) = .returned (.string (t.extract 0 n)) ∧ answers t n :=
  ⟨k + 1, rfl, by omega, Or.inr (isD_of hs hk (by rw [bt_at t k hk]; simpa using h))⟩
theorem end_no {t : ByteArray} (h : ∀ m, ¬ isD t m) : ∃ n, Ending.returned (.string ⟨#[]⟩) = .returned (.string (t.extract 0 n)) ∧ answers t n :=
  ⟨0, ret_str (cut_nil t).symm, Nat.zero_le _, Or.inl ⟨rfl, h⟩⟩
theorem not36 {t : ByteArray} {k : Nat} (hk : k < t.size) (h : (((t[k]'hk).toNat : Int) == 36) = false) : bt t k ≠ 36 := by
  rw [bt_at t k hk]; simpa using h

set_option maxHeartbeats 1000000 in
theorem dollar_any (t : ByteArray) (w : World) (hs : t.size ≤ 1048576) :
    Calls Try.prog 7 #[.string t] w fun e w' => (∃ n, e = .returned (.string (t.extract 0 n)) ∧ answers t n) ∧ w' = w := by
  go_enter Try.func7, Try.ntmps7
  go_wp2
  go_loop [3] (fun i => ∃ k : Nat, Hid (scanned t k) ∧ 1 ≤ k ∧ k ≤ 1 + t.size ∧ i = .int .i64 k) (fun i => 1 + t.size - (intOf i).toNat)
  case atStart => exact ⟨1, scanned_one t, Nat.le_refl _, by omega, rfl⟩
  case round =>
    obtain ⟨k, hsc, hk1, hk, rfl⟩ := hrel
    by_cases hlt : k < t.size
    · have HB : Hid (bt t k = (t[k].toNat : Int)) := bt_at t k hlt
      by_cases ht : tagB (t[k].toNat : Int) = true
      · by_cases h1 : 1 < k
        · go_wp2_with (go_at_call 9; refine (name_any _ _).mono ?_; rintro e w' ⟨rfl, rfl⟩)
          go_round
          case rel => exact ⟨k + 1, scanned_succ hsc.out (by rw [HB.out]; exact ht) (Or.inl h1), by omega, by omega, by go_num⟩
          case measure => simp [intOf]; omega
        · by_cases hd : digB (t[k].toNat : Int) = false
          · go_wp2_with (first | (go_at_call 9; refine (name_any _ _).mono ?_; rintro e w' ⟨rfl, rfl⟩) | (go_at_call 10; refine (digit_any _ _).mono ?_; rintro e w' ⟨rfl, rfl⟩))
            go_round
            case rel => exact ⟨k + 1, scanned_succ hsc.out (by rw [HB.out]; exact ht) (Or.inr (by rw [HB.out]; exact hd)), by omega, by omega, by go_num⟩
            case measure => simp [intOf]; omega
          · have HN : Hid ((((t[k]'hlt).toNat : Int) == 36) = false → ∀ m, ¬ isD t m) := fun h36 => none_of hsc.out (Or.inr ⟨not36 hlt h36, Or.inr ⟨by omega, by
              obtain rfl : k = 1 := by omega
              rw [HB.out]; simpa using hd⟩⟩)
            cases h36 : (((t[k]'hlt).toNat : Int) == 36)
            · go_wp2_with (first | (go_at_call 9; refine (name_any _ _).mono ?_; rintro e w' ⟨rfl, rfl⟩) | (go_at_call 10; refine (digit_any _ _).mono ?_; rintro e w' ⟨rfl, rfl⟩))
              go_ret
              exact ⟨end_no (HN.out h36), rfl⟩
            · go_wp2_with (first | (go_at_call 9; refine (name_any _ _).mono ?_; rintro e w' ⟨rfl, rfl⟩) | (go_at_call 10; refine (digit_any _ _).mono ?_; rintro e w' ⟨rfl, rfl⟩))
              go_ret
              exact ⟨end_yes hsc.out hlt h36, rfl⟩
      · have HN : Hid ((((t[k]'hlt).toNat : Int) == 36) = false → ∀ m, ¬ isD t m) := fun h36 => none_of hsc.out (Or.inr ⟨not36 hlt h36, Or.inl (by rw [HB.out]; simpa using ht)⟩)
        cases h36 : (((t[k]'hlt).toNat : Int) == 36)
        · go_wp2_with (go_at_call 9; refine (name_any _ _).mono ?_; rintro e w' ⟨rfl, rfl⟩)
          go_ret
          exact ⟨end_no (HN.out h36), rfl⟩
        · go_wp2_with (go_at_call 9; refine (name_any _ _).mono ?_; rintro e w' ⟨rfl, rfl⟩)
          go_ret
          exact ⟨end_yes hsc.out hlt h36, rfl⟩
    · go_wp2
      go_ret
      exact ⟨end_no (none_of hsc.out (Or.inl (by omega))), rfl⟩

theorem zz_any (t : ByteArray) (w : World) (hs : t.size ≤ 1048576) :
    Calls Try.prog 5 #[.string t] w fun e w' => (∃ n, e = .returned (.string (t.extract 0 n)) ∧ answers t n) ∧ w' = w := by
  go_enter Try.func5, Try.ntmps5
  go_wp2_with (go_at_call 7; refine (dollar_any _ _ hs).mono ?_; rintro e w' ⟨⟨n, rfl, hn⟩, rfl⟩)
  go_ret
  exact ⟨⟨n, rfl, hn⟩, rfl⟩

/-- It answers a bool, true just where Q holds. -/
def Says (Q : Prop) (e : Ending) : Prop := ∃ b : Bool, e = .returned (.bool b) ∧ (b = true ↔ Q)
theorem says_no {Q : Prop} (h : ¬ Q) : Says Q (.returned (.bool false)) :=
  ⟨false, rfl, Iff.intro (fun e => Bool.noConfusion e) (fun q => absurd q h)⟩
theorem says_yes {Q : Prop} (h : Q) : Says Q (.returned (.bool true)) :=
  ⟨true, rfl, Iff.intro (fun _ => h) (fun _ => rfl)⟩

set_option maxHeartbeats 1000000 in
theorem isd_any (p : ByteArray) (w : World) (hs : p.size ≤ 1048576) (h0 : 0 < p.size) (hd : ((p[0].toNat : Int) != 36) = false) :
    Calls Try.prog 6 #[.string p] w fun e w' => Says (isD p p.size) e ∧ w' = w := by
  by_cases h2 : p.size < 2
  · have HN : Hid (¬ isD p p.size) := fun h => by have := h.1; omega
    go_enter Try.func6, Try.ntmps6
    go_wp2
    go_ret
    exact ⟨says_no HN.out, rfl⟩
  · have hlt : p.size - 1 < p.size := by omega
    have HB : Hid (bt p (p.size - 1) = ((p[p.size - 1]'hlt).toNat : Int)) := bt_at p _ hlt
    cases h36 : ((((p[p.size - 1]'hlt)).toNat : Int) != 36)
    · go_enter Try.func6, Try.ntmps6
      go_wp2
      go_loop [4] (fun i => ∃ k : Nat, Hid (∀ i, 1 ≤ i → i < k → tagB (bt p i) = true) ∧ 1 ≤ k ∧ k ≤ p.size - 1 ∧ i = .int .i64 k) (fun i => p.size - (intOf i).toNat)
      case atStart => exact ⟨1, fun i h1 h2 => by omega, Nat.le_refl _, by omega, rfl⟩
      case round =>
        obtain ⟨k, hsc, hk1, hk, rfl⟩ := hrel
        by_cases hk2 : k < p.size - 1
        · have hkp : k < p.size := by omega
          have HK : Hid (bt p k = ((p[k]'hkp).toNat : Int)) := bt_at p _ hkp
          cases ht : tagB ((p[k]'hkp).toNat : Int)
          · have HN : Hid (¬ isD p p.size) := fun h => by
              have := h.2.2.2.1 k hk1 hk2
              rw [HK.out, ht] at this; cases this
            go_wp2_with (go_at_call 8; refine (tag_any _ _).mono ?_; rintro e w' ⟨rfl, rfl⟩)
            go_ret
            exact ⟨says_no HN.out, rfl⟩
          · go_wp2_with (go_at_call 8; refine (tag_any _ _).mono ?_; rintro e w' ⟨rfl, rfl⟩)
            go_round
            case rel => exact ⟨k + 1, fun i h1 h2 => by
                by_cases e : i = k
                · subst e; rw [HK.out]; exact ht
                · exact hsc.out i h1 (by omega), by omega, by omega, by go_num⟩
            case measure => simp [intOf]; omega
        · have HS : Hid (∀ i, 1 ≤ i → i < p.size - 1 → tagB (bt p i) = true) := fun i h1 h2 => hsc.out i h1 (by omega)
          have H36 : Hid (bt p (p.size - 1) = 36) := show bt p (p.size - 1) = 36 by rw [HB.out]; simpa using h36
          by_cases h3 : 2 < p.size
          · have h1p : 1 < p.size := by omega
            have H1 : Hid (bt p 1 = ((p[1]'h1p).toNat : Int)) := bt_at p _ h1p
            by_cases hdg : 48 ≤ ((p[1]'h1p).toNat : Int) ∧ ((p[1]'h1p).toNat : Int) ≤ 57
            · have HN : Hid (¬ isD p p.size) := fun h => by
                have := h.2.2.2.2 h3
                rw [H1.out] at this; unfold digB at this; simp at this; omega
              obtain ⟨hd1, hd2⟩ := hdg
              go_wp2
              go_ret
              exact ⟨says_no HN.out, rfl⟩
            · have HY : Hid (isD p p.size) := ⟨by omega, Nat.le_refl _, H36.out, HS.out, fun _ => by rw [H1.out]; unfold digB; simpa using hdg⟩
              go_wp2
              all_goals
                go_ret
                exact ⟨says_yes HY.out, rfl⟩
          · have HY : Hid (isD p p.size) := ⟨by omega, Nat.le_refl _, H36.out, HS.out, fun h => absurd h h3⟩
            go_wp2
            go_ret
            exact ⟨says_yes HY.out, rfl⟩
    · have HN : Hid (¬ isD p p.size) := fun h => by
        have := h.2.2.1
        rw [HB.out] at this
        rw [this] at h36; simp at h36
      go_enter Try.func6, Try.ntmps6
      go_wp2
      go_ret
      exact ⟨says_no HN.out, rfl⟩
end Go.Proofs.Qxb6618462a
