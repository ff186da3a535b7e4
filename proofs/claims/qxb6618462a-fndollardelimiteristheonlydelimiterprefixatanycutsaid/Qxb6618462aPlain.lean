/-
  Plain facts on dollar delimiters: no Go in sight.
-/
import Derived.Test.Qxb6618462aBytes
namespace Go.Proofs.Qxb6618462a

/-- The byte at i as a number; 0 beyond the end. -/
def bt (t : ByteArray) (i : Nat) : Int := if h : i < t.size then (t[i].toNat : Int) else 0
theorem bt_at (t : ByteArray) (i : Nat) (h : i < t.size) : bt t i = (t[i].toNat : Int) := by unfold bt; rw [dif_pos h]

/-- The first k bytes of t are, but for the first of them, those of a delimiter. -/
def isD (t : ByteArray) (k : Nat) : Prop :=
  2 ≤ k ∧ k ≤ t.size ∧ bt t (k - 1) = 36 ∧ (∀ i, 1 ≤ i → i < k - 1 → tagB (bt t i) = true) ∧ (2 < k → digB (bt t 1) = false)
def scanned (t : ByteArray) (k : Nat) : Prop := 1 ≤ k ∧ ∀ i, 1 ≤ i → i < k → tagB (bt t i) = true ∧ (i = 1 → digB (bt t 1) = false)

theorem tag36 : tagB 36 = false := by decide
theorem isD_unique {t : ByteArray} {a b : Nat} (ha : isD t a) (hb : isD t b) : a = b := by
  obtain ⟨a1, a2, a3, a4, a5⟩ := ha
  obtain ⟨b1, b2, b3, b4, b5⟩ := hb
  rcases Nat.lt_trichotomy a b with h | h | h
  · have := b4 (a - 1) (by omega) (by omega)
    rw [a3, tag36] at this; cases this
  · exact h
  · have := a4 (b - 1) (by omega) (by omega)
    rw [b3, tag36] at this; cases this
theorem isD_of {t : ByteArray} {k : Nat} (hs : scanned t k) (hk : k < t.size) (h : bt t k = 36) : isD t (k + 1) := by
  refine ⟨by have := hs.1; omega, by omega, by simpa using h, fun i h1 h2 => (hs.2 i h1 (by omega)).1, fun h2 => (hs.2 1 (by omega) (by omega)).2 rfl⟩
theorem none_of {t : ByteArray} {k : Nat} (hs : scanned t k) (h : t.size ≤ k ∨ (bt t k ≠ 36 ∧ (tagB (bt t k) = false ∨ (k = 1 ∧ digB (bt t 1) = true)))) : ∀ m, ¬ isD t m := by
  intro m ⟨m1, m2, m3, m4, m5⟩
  have low : ¬ m - 1 < k := by
    intro hlt
    have := (hs.2 (m - 1) (by omega) hlt).1
    rw [m3, tag36] at this; cases this
  rcases h with h | ⟨h36, h⟩
  · omega
  · by_cases e : m - 1 = k
    · rw [e] at m3; exact h36 m3
    · rcases h with h | ⟨rfl, h⟩
      · have := m4 k hs.1 (by omega)
        rw [h] at this; cases this
      · have := m5 (by omega)
        rw [h] at this; cases this
theorem scanned_one (t : ByteArray) : scanned t 1 := ⟨Nat.le_refl _, fun i h1 h2 => by omega⟩
theorem scanned_succ {t : ByteArray} {k : Nat} (hs : scanned t k) (ht : tagB (bt t k) = true) (hd : 1 < k ∨ digB (bt t k) = false) : scanned t (k + 1) := by
  refine ⟨by have := hs.1; omega, fun i h1 h2 => ?_⟩
  by_cases e : i = k
  · subst e
    refine ⟨ht, fun e1 => ?_⟩
    subst e1
    rcases hd with h | h
    · omega
    · exact h
  · exact hs.2 i h1 (by omega)

/-! ### Cuts of one text -/
theorem bt_extract (t : ByteArray) (k i : Nat) (hk : k ≤ t.size) (hi : i < k) : bt (t.extract 0 k) i = bt t i := by
  have hs : i < (t.extract 0 k).size := by rw [ByteArray.size_extract]; omega
  rw [bt_at _ _ hs, bt_at _ _ (by omega)]
  rw [ByteArray.getElem_extract]
  simp
theorem size_cut (t : ByteArray) (k : Nat) (hk : k ≤ t.size) : (t.extract 0 k).size = k := by rw [ByteArray.size_extract]; omega
theorem isD_cut {t : ByteArray} {n k : Nat} (hn : n ≤ t.size) : isD (t.extract 0 n) k ↔ k ≤ n ∧ isD t k := by
  unfold isD
  rw [size_cut t n hn]
  constructor
  · intro ⟨a, b, c, d, e⟩
    rw [bt_extract t n _ hn (by omega)] at c
    exact ⟨b, a, by omega, c, fun i h1 h2 => by have := d i h1 h2; rwa [bt_extract t n _ hn (by omega)] at this, fun h => by have := e h; rwa [bt_extract t n _ hn (by omega)] at this⟩
  · intro ⟨b, a, _, c, d, e⟩
    exact ⟨a, b, by rw [bt_extract t n _ hn (by omega)]; exact c, fun i h1 h2 => by rw [bt_extract t n _ hn (by omega)]; exact d i h1 h2, fun h => by rw [bt_extract t n _ hn (by omega)]; exact e h⟩
theorem cut_nil (t : ByteArray) : t.extract 0 0 = ⟨#[]⟩ := by
  apply ByteArray.ext
  rw [ByteArray.data_extract]
  simp
theorem cut_join (a b : ByteArray) : (a ++ b).extract 0 a.size = a := ByteArray.extract_append_eq_left rfl
theorem cut_cut (t : ByteArray) (n k : Nat) (h : k ≤ n) : (t.extract 0 n).extract 0 k = t.extract 0 k := by
  apply ByteArray.ext
  simp only [ByteArray.data_extract, Array.extract_extract]
  congr 1
  omega

/-- What dollarDelimiter answers at t: the first n bytes. -/
def answers (t : ByteArray) (n : Nat) : Prop := n ≤ t.size ∧ ((n = 0 ∧ ∀ m, ¬ isD t m) ∨ isD t n)
theorem answers_cut {u : ByteArray} {n m k : Nat} (hk : k ≤ u.size) (hn : answers u n) (hm : answers (u.extract 0 k) m) : (n ≤ k → m = n) ∧ (k < n → m = 0) := by
  obtain ⟨n1, n2⟩ := hn
  obtain ⟨m1, m2⟩ := hm
  rcases m2 with ⟨rfl, m2⟩ | m2
  · refine ⟨fun h => ?_, fun _ => rfl⟩
    rcases n2 with ⟨rfl, _⟩ | n2
    · rfl
    · exact absurd ((isD_cut hk).2 ⟨h, n2⟩) (m2 n)
  · obtain ⟨a, b⟩ := (isD_cut hk).1 m2
    rcases n2 with ⟨rfl, n2⟩ | n2
    · exact absurd b (n2 m)
    · have := isD_unique b n2
      exact ⟨fun _ => this, fun h => by omega⟩
theorem answers_iff {u : ByteArray} {n k : Nat} (hk : 1 ≤ k) (hn : answers u n) : isD u k ↔ n = k := by
  obtain ⟨n1, n2⟩ := hn
  rcases n2 with ⟨rfl, n2⟩ | n2
  · exact ⟨fun h => absurd h (n2 k), fun h => by omega⟩
  · exact ⟨fun h => isD_unique n2 h, fun h => h ▸ n2⟩
end Go.Proofs.Qxb6618462a
