/-
  Plain facts on "version " and the decimal numeral: no Go in sight.
-/
import Derived.Lib.ItoaLen
import Derived.Lib.ItoaMem
namespace Go.Proofs.Qxb6618402aDoor
open Go.Lib

def itB (v : Int) : ByteArray := ⟨(itoa v).toArray⟩
def verS (v : Int) : ByteArray := (⟨#[118, 101, 114, 115, 105, 111, 110, 32]⟩ : ByteArray) ++ itB v

theorem itB_len (v : Int) : (itB v).size = (itoa v).length := by simp [itB, ByteArray.size]
theorem itoa_pos (v : Int) : 1 ≤ (itoa v).length := by
  unfold itoa
  split
  · simp
  · rw [decDigits_length]; exact nDigits_pos _
theorem itB_pos (v : Int) : 1 ≤ (itB v).size := by rw [itB_len]; exact itoa_pos v
theorem itB_le (v : Int) (h0 : -9223372036854775808 ≤ v) (h1 : v ≤ 9223372036854775807) : (itB v).size ≤ 21 := by rw [itB_len]; exact itoa_length_le v h0 h1
theorem head_size : (⟨#[118, 101, 114, 115, 105, 111, 110, 32]⟩ : ByteArray).size = 8 := rfl
theorem verS_size (v : Int) : (verS v).size = 8 + (itB v).size := by unfold verS; rw [ByteArray.size_append, head_size]
theorem verS_head (v : Int) : (verS v).extract 0 8 = ⟨#[118, 101, 114, 115, 105, 111, 110, 32]⟩ := ByteArray.extract_append_eq_left (by rfl)
theorem verS_tail (v : Int) : (verS v).extract 8 (verS v).size = itB v := ByteArray.extract_append_eq_right (by rfl) (by rw [verS_size]; rfl)

/-! ### The digits -/
def dgt (u k : Nat) : Nat := u / 10 ^ (nDigits u - 1 - k) % 10
def pre (u k : Nat) : Nat := u / 10 ^ (nDigits u - k)
theorem pre_zero (u : Nat) : pre u 0 = 0 := by unfold pre; exact Nat.div_eq_of_lt (lt_pow_nDigits u)
theorem pre_all (u : Nat) : pre u (nDigits u) = u := by unfold pre; simp
theorem pre_le (u k : Nat) : pre u k ≤ u := Nat.div_le_self _ _
theorem dgt_le (u k : Nat) : dgt u k ≤ 9 := by unfold dgt; omega
theorem pre_succ (u k : Nat) (h : k < nDigits u) : pre u (k + 1) = 10 * pre u k + dgt u k := by
  unfold pre dgt
  have e1 : nDigits u - (k + 1) = nDigits u - 1 - k := by omega
  have e2 : nDigits u - k = (nDigits u - 1 - k) + 1 := by omega
  rw [e1, e2, Nat.pow_succ, ← Nat.div_div_eq_div_mul]
  omega
theorem dec_get (u k : Nat) (h : k < (decDigits u).length) : (decDigits u)[k].toNat = 48 + dgt u k := by
  have e := decDigits_eq u
  have h' : k < nDigits u := by rw [← decDigits_length]; exact h
  have : (decDigits u)[k]? = some (dg u (nDigits u - 1 - k)) := by rw [e]; simp [h']
  rw [List.getElem?_eq_getElem h] at this
  rw [Option.some.inj this]
  unfold dg dgt
  rw [UInt8.toNat_ofNat']
  omega
/-- The first digit of a number that is not 0 is not 0. -/
theorem dgt_first (u : Nat) (h : 1 ≤ u) : dgt u 0 ≠ 0 := by
  have e := pre_succ u 0 (nDigits_pos u)
  rw [pre_zero] at e
  intro hz
  rw [hz] at e
  have : pre u 1 = 0 := by omega
  unfold pre at this
  have hp : 0 < 10 ^ (nDigits u - 1) := Nat.pow_pos (by omega)
  have hlt : u < 10 ^ (nDigits u - 1) := by
    rcases (Nat.div_eq_zero_iff).1 this with h0 | h0
    · omega
    · exact h0
  by_cases h10 : u < 10
  · rw [nDigits_small h10] at hlt; simp at hlt; omega
  · -- nDigits is the least
    have key : ∀ n, ∀ x : Nat, 1 ≤ x → x ≤ n → ¬ x < 10 ^ (nDigits x - 1) := by
      intro n
      induction n with
      | zero => intro x h1 h2; omega
      | succ n ih =>
        intro x h1 h2
        by_cases hx : x < 10
        · rw [nDigits_small hx]; simp; omega
        · rw [nDigits_big hx]
          have hi := ih (x / 10) (by omega) (by omega)
          have hpos := nDigits_pos (x / 10)
          have e3 : nDigits (x / 10) + 1 - 1 = (nDigits (x / 10) - 1) + 1 := by omega
          rw [e3, Nat.pow_succ]
          omega
    exact key u u h (Nat.le_refl _) hlt

theorem itB_nonneg (u : Nat) : (itB (u : Int)).size = nDigits u := by rw [itB_len, itoa_nonneg, decDigits_length]
theorem itB_neg (u : Nat) (h : 1 ≤ u) : (itB (-(u : Int))).size = nDigits u + 1 := by rw [itB_len, itoa_neg u h]; simp [decDigits_length]
theorem list_get {l l' : List UInt8} (e : l = l') (k : Nat) (h : k < (⟨l.toArray⟩ : ByteArray).size) (h' : k < l'.length) : (⟨l.toArray⟩ : ByteArray)[k] = l'[k] := by
  subst e; rfl
theorem pos_get (u k : Nat) (h : k < (itB (u : Int)).size) : (itB (u : Int))[k].toNat = 48 + dgt u k := by
  have hl : k < (decDigits u).length := by rw [itB_nonneg] at h; rw [decDigits_length]; exact h
  rw [← dec_get u k hl]
  exact congrArg UInt8.toNat (list_get (itoa_nonneg u) k h hl)
theorem neg_get0 (u : Nat) (h1 : 1 ≤ u) (h : 0 < (itB (-(u : Int))).size) : (itB (-(u : Int)))[0].toNat = 45 := by
  exact congrArg UInt8.toNat (list_get (itoa_neg u h1) 0 h (by simp))
theorem neg_get (u k : Nat) (h1 : 1 ≤ u) (hk : 1 ≤ k) (h : k < (itB (-(u : Int))).size) : (itB (-(u : Int)))[k].toNat = 48 + dgt u (k - 1) := by
  have hl : k - 1 < (decDigits u).length := by rw [itB_neg u h1] at h; rw [decDigits_length]; omega
  rw [← dec_get u (k - 1) hl]
  have hl' : k < (45 :: decDigits u).length := by simp; omega
  refine congrArg UInt8.toNat ((list_get (itoa_neg u h1) k h hl').trans ?_)
  obtain ⟨j, rfl⟩ : ∃ j, k = j + 1 := ⟨k - 1, by omega⟩
  simp

/-! ### What the law holds against each other -/
theorem itoa_tens (v : Int) (h : 10 ≤ v ∨ v ≤ -10) : itoa v = itoa (v.tdiv 10) ++ [UInt8.ofNat (48 + v.natAbs % 10)] := by
  rcases h with h | h
  · obtain ⟨u, rfl⟩ : ∃ u : Nat, v = u := ⟨v.toNat, by omega⟩
    have e : ((u : Int).tdiv 10) = ((u / 10 : Nat) : Int) := by rw [Int.tdiv_eq_ediv_of_nonneg (by omega)]; rfl
    rw [e, itoa_nonneg, itoa_nonneg, decDigits, dif_neg (by omega)]
    simp
  · obtain ⟨u, rfl⟩ : ∃ u : Nat, v = -(u : Int) := ⟨v.natAbs, by omega⟩
    have e : ((-(u : Int)).tdiv 10) = -((u / 10 : Nat) : Int) := by rw [Int.neg_tdiv, Int.tdiv_eq_ediv_of_nonneg (by omega)]; rfl
    rw [e, itoa_neg u (by omega), itoa_neg (u / 10) (by omega), decDigits, dif_neg (by omega)]
    simp
theorem itB_tens (v : Int) (h : 10 ≤ v ∨ v ≤ -10) : itB v = itB (v.tdiv 10) ++ ⟨#[UInt8.ofNat (48 + v.natAbs % 10)]⟩ := by
  unfold itB
  apply ByteArray.ext
  rw [ByteArray.data_append, itoa_tens v h]
  simp
theorem verS_tens (v : Int) (h : 10 ≤ v ∨ v ≤ -10) : verS v = verS (v.tdiv 10) ++ ⟨#[UInt8.ofNat (48 + v.natAbs % 10)]⟩ := by
  unfold verS
  rw [itB_tens v h, ByteArray.append_assoc]
theorem one_size (c : UInt8) : (⟨#[c]⟩ : ByteArray).size = 1 := rfl
theorem tens_size (v : Int) (h : 10 ≤ v ∨ v ≤ -10) : (verS v).size = (verS (v.tdiv 10)).size + 1 := by
  rw [verS_tens v h, ByteArray.size_append, one_size]
theorem tens_cut (v : Int) (h : 10 ≤ v ∨ v ≤ -10) : (verS v).extract 0 (verS (v.tdiv 10)).size = verS (v.tdiv 10) := by
  rw [verS_tens v h]
  exact ByteArray.extract_append_eq_left rfl
theorem get_last (a : ByteArray) (c : UInt8) (k : Nat) (e : k = a.size) (b : ByteArray) (eb : b = a ++ ⟨#[c]⟩) (hk : k < b.size) : b[k] = c := by
  subst eb; subst e
  rw [ByteArray.getElem_append_right (Nat.le_refl _)]
  simp only [Nat.sub_self]
  rfl
theorem tens_last (v : Int) (h : 10 ≤ v ∨ v ≤ -10) (k : Nat) (hk : k < (verS v).size) (e : k = (verS (v.tdiv 10)).size) : (verS v)[k].toNat = 48 + v.natAbs % 10 := by
  rw [get_last _ _ k e _ (verS_tens v h) hk, UInt8.toNat_ofNat']
  omega
theorem verS_pos (v : Int) : 0 < (verS v).size := by rw [verS_size]; omega
theorem tens_end (v : Int) (h : 10 ≤ v ∨ v ≤ -10) : ((verS v)[(verS v).size - 1]'(Nat.sub_lt (verS_pos v) Nat.one_pos)).toNat = 48 + v.natAbs % 10 :=
  tens_last v h _ _ (by rw [tens_size v h]; rfl)
theorem verS_le (v : Int) (h0 : -9223372036854775808 ≤ v) (h1 : v ≤ 9223372036854775807) : (verS v).size ≤ 29 := by
  have := verS_size v; have := itB_le v h0 h1; omega
theorem verS_ge (v : Int) : 9 ≤ (verS v).size := by
  have := verS_size v; have := itB_pos v; omega
theorem mirror (u : Nat) (h : 1 ≤ u) : verS (-(u : Int)) = (⟨#[118, 101, 114, 115, 105, 111, 110, 32, 45]⟩ : ByteArray) ++ itB (u : Int) := by
  unfold verS itB
  apply ByteArray.ext
  rw [ByteArray.data_append, ByteArray.data_append, itoa_neg u h, itoa_nonneg]
  apply Array.ext'
  simp
end Go.Proofs.Qxb6618402aDoor
