/-
  Plain facts on greatest and least: no Go in sight.
-/
import Derived.Test.Qxb6623409aFacts
namespace Go.Proofs.Qxb6623409a

theorem maxOf_ge (z : List Int) : ∀ n, n ≤ z.length → ∀ i, i < n → z.getD i 0 ≤ Lib.maxOf (z.take n)
  | 0, _, i, hi => by omega
  | 1, _, i, hi => by
    obtain rfl : i = 0 := by omega
    rw [Lib.maxOf_one]; exact Int.le_refl _
  | n + 2, hn, i, hi => by
    rw [Lib.maxOf_step z (n + 1) (by omega) (by omega)]
    by_cases e : i = n + 1
    · subst e; exact Int.le_max_right _ _
    · exact Int.le_trans (maxOf_ge z (n + 1) (by omega) i (by omega)) (Int.le_max_left _ _)
/-- Has one of the first n numbers that value? -/
def hit (f : Nat → Int) (x : Int) : Nat → Bool
  | 0 => false
  | n + 1 => hit f x n || (f n == x)
theorem hit_of (f : Nat → Int) (x : Int) : ∀ n i, i < n → f i = x → hit f x n = true
  | 0, i, hi, _ => by omega
  | n + 1, i, hi, h => by
    unfold hit
    by_cases e : i = n
    · subst e; simp [h]
    · rw [hit_of f x n i (by omega) h]; rfl
theorem maxOf_hit (z : List Int) : ∀ n, n ≤ z.length → 1 ≤ n → ∃ i, i < n ∧ z.getD i 0 = Lib.maxOf (z.take n)
  | 0, _, h => by omega
  | 1, _, _ => ⟨0, by omega, by rw [Lib.maxOf_one]⟩
  | n + 2, hn, _ => by
    rw [Lib.maxOf_step z (n + 1) (by omega) (by omega)]
    obtain ⟨i, hi, e⟩ := maxOf_hit z (n + 1) (by omega) (by omega)
    by_cases hle : z.getD (n + 1) 0 ≤ Lib.maxOf (z.take (n + 1))
    · exact ⟨i, by omega, by rw [Int.max_eq_left hle]; exact e⟩
    · exact ⟨n + 1, by omega, by rw [Int.max_eq_right (by omega)]⟩
theorem mins_le (z : List Int) : ∀ n v, v < n → mins z n ≤ deg z v
  | 0, v, h => by omega
  | n + 1, v, h => by
    show min (mins z n) (deg z n) ≤ deg z v
    by_cases e : v = n
    · subst e; exact Int.min_le_right _ _
    · exact Int.le_trans (Int.min_le_left _ _) (mins_le z n v (by omega))
theorem maxs_ge (z : List Int) : ∀ n v, v < n → deg z v ≤ maxs z n
  | 0, v, h => by omega
  | n + 1, v, h => by
    show deg z v ≤ max (maxs z n) (deg z n)
    by_cases e : v = n
    · subst e; exact Int.le_max_right _ _
    · exact Int.le_trans (maxs_ge z n v (by omega)) (Int.le_max_left _ _)
theorem mins_hit (z : List Int) : ∀ n, 1 ≤ n → ∃ v, v < n ∧ deg z v = mins z n
  | 0, h => by omega
  | 1, _ => ⟨0, by omega, by show deg z 0 = min (deg z 0) (deg z 0); omega⟩
  | n + 2, _ => by
    obtain ⟨i, hi, e⟩ := mins_hit z (n + 1) (by omega)
    show ∃ v, v < n + 2 ∧ deg z v = min (mins z (n + 1)) (deg z (n + 1))
    by_cases hle : mins z (n + 1) ≤ deg z (n + 1)
    · exact ⟨i, by omega, by rw [Int.min_eq_left hle]; exact e⟩
    · exact ⟨n + 1, by omega, by rw [Int.min_eq_right (by omega)]⟩
theorem maxs_hit (z : List Int) : ∀ n, 1 ≤ n → ∃ v, v < n ∧ deg z v = maxs z n
  | 0, h => by omega
  | 1, _ => ⟨0, by omega, by show deg z 0 = max (deg z 0) (deg z 0); omega⟩
  | n + 2, _ => by
    obtain ⟨i, hi, e⟩ := maxs_hit z (n + 1) (by omega)
    show ∃ v, v < n + 2 ∧ deg z v = max (maxs z (n + 1)) (deg z (n + 1))
    by_cases hle : deg z (n + 1) ≤ maxs z (n + 1)
    · exact ⟨i, by omega, by rw [Int.max_eq_left hle]; exact e⟩
    · exact ⟨n + 1, by omega, by rw [Int.max_eq_right (by omega)]⟩
/-- The number at i. -/
def zf (z : List Int) (i : Nat) : Int := z.getD i 0
theorem hit_max (z : List Int) (n : Nat) (h : n ≤ z.length) (h1 : 1 ≤ n) : hit (zf z) (Lib.maxOf (z.take n)) n = true := by
  obtain ⟨i, hi, e⟩ := maxOf_hit z n h h1
  exact hit_of _ _ n i hi e
theorem hit_mins (z : List Int) (n : Nat) (h1 : 1 ≤ n) : hit (deg z) (mins z n) n = true := by
  obtain ⟨i, hi, e⟩ := mins_hit z n h1
  exact hit_of _ _ n i hi e
theorem hit_maxs (z : List Int) (n : Nat) (h1 : 1 ≤ n) : hit (deg z) (maxs z n) n = true := by
  obtain ⟨i, hi, e⟩ := maxs_hit z n h1
  exact hit_of _ _ n i hi e
end Go.Proofs.Qxb6623409a
