/-
  Plain facts on the decimal numeral and on the text of a status: no Go in sight.
-/
import Derived.Lib.ItoaLen
import Derived.Lib.ItoaMem
import Derived.Lib.Strings
namespace Go.Proofs.Qxb6623274aDoor
open Go.Lib

def itB (v : Int) : ByteArray := ⟨(itoa v).toArray⟩
theorem itB_len (v : Int) : (itB v).size = (itoa v).length := by simp [itB, ByteArray.size]
theorem itoa_pos (v : Int) : 1 ≤ (itoa v).length := by
  unfold itoa
  split
  · simp
  · rw [decDigits_length]; exact nDigits_pos _
theorem itB_pos (v : Int) : 1 ≤ (itB v).size := by rw [itB_len]; exact itoa_pos v
theorem itB_le (v : Int) (h0 : -9223372036854775808 ≤ v) (h1 : v ≤ 9223372036854775807) : (itB v).size ≤ 21 := by rw [itB_len]; exact itoa_length_le v h0 h1
/-! ### The digits -/
def dgt (u k : Nat) : Nat := u / 10 ^ (nDigits u - 1 - k) % 10
def pre (u k : Nat) : Nat := u / 10 ^ (nDigits u - k)
theorem pre_zero (u : Nat) : pre u 0 = 0 := by unfold pre; exact Nat.div_eq_of_lt (lt_pow_nDigits u)
theorem pre_all (u : Nat) : pre u (nDigits u) = u := by unfold pre; simp
theorem pre_le (u k : Nat) : pre u k ≤ u := Nat.div_le_self _ _
theorem dgt_le (u k : Nat) : dgt u k ≤ 9 := by unfold dgt; omega
theorem pre_succ (u k : Nat) (h : k < nDigits u) : pre u (k + 1) = 10 * pre u k + dgt u k := by
  unfold pre dgt
  have e1 : nDigits u - (k + 1) = nDigits u - 1 - k := by omega
  have e2 : nDigits u - k = (nDigits u - 1 - k) + 1 := by omega
  rw [e1, e2, Nat.pow_succ, ← Nat.div_div_eq_div_mul]
  omega
theorem dec_get (u k : Nat) (h : k < (decDigits u).length) : (decDigits u)[k].toNat = 48 + dgt u k := by
  have e := decDigits_eq u
  have h' : k < nDigits u := by rw [← decDigits_length]; exact h
  have : (decDigits u)[k]? = some (dg u (nDigits u - 1 - k)) := by rw [e]; simp [h']
  rw [List.getElem?_eq_getElem h] at this
  rw [Option.some.inj this]
  unfold dg dgt
  rw [UInt8.toNat_ofNat']
  omega
/-- The first digit of a number that is not 0 is not 0. -/
theorem dgt_first (u : Nat) (h : 1 ≤ u) : dgt u 0 ≠ 0 := by
  have e := pre_succ u 0 (nDigits_pos u)
  rw [pre_zero] at e
  intro hz
  rw [hz] at e
  have : pre u 1 = 0 := by omega
  unfold pre at this
  have hp : 0 < 10 ^ (nDigits u - 1) := Nat.pow_pos (by omega)
  have hlt : u < 10 ^ (nDigits u - 1) := by
    rcases (Nat.div_eq_zero_iff).1 this with h0 | h0
    · omega
    · exact h0
  by_cases h10 : u < 10
  · rw [nDigits_small h10] at hlt; simp at hlt; omega
  · -- nDigits is the least
    have key : ∀ n, ∀ x : Nat, 1 ≤ x → x ≤ n → ¬ x < 10 ^ (nDigits x - 1) := by
      intro n
      induction n with
      | zero => intro x h1 h2; omega
      | succ n ih =>
        intro x h1 h2
        by_cases hx : x < 10
        · rw [nDigits_small hx]; simp; omega
        · rw [nDigits_big hx]
          have hi := ih (x / 10) (by omega) (by omega)
          have hpos := nDigits_pos (x / 10)
          have e3 : nDigits (x / 10) + 1 - 1 = (nDigits (x / 10) - 1) + 1 := by omega
          rw [e3, Nat.pow_succ]
          omega
    exact key u u h (Nat.le_refl _) hlt

theorem itB_nonneg (u : Nat) : (itB (u : Int)).size = nDigits u := by rw [itB_len, itoa_nonneg, decDigits_length]
theorem list_get {l l' : List UInt8} (e : l = l') (k : Nat) (h : k < (⟨l.toArray⟩ : ByteArray).size) (h' : k < l'.length) : (⟨l.toArray⟩ : ByteArray)[k] = l'[k] := by
  subst e; rfl
theorem pos_get (u k : Nat) (h : k < (itB (u : Int)).size) : (itB (u : Int))[k].toNat = 48 + dgt u k := by
  have hl : k < (decDigits u).length := by rw [itB_nonneg] at h; rw [decDigits_length]; exact h
  rw [← dec_get u k hl]
  exact congrArg UInt8.toNat (list_get (itoa_nonneg u) k h hl)

theorem nDigits_byte (u : Nat) (h : u ≤ 255) : nDigits u ≤ 3 := by
  by_cases h1 : u < 10
  · rw [nDigits_small h1]; omega
  · rw [nDigits_big h1]
    by_cases h2 : u / 10 < 10
    · rw [nDigits_small h2]; omega
    · rw [nDigits_big h2, nDigits_small (by omega)]; omega

/-! ### The text of a status that has no name -/
def stS (u : Nat) : ByteArray := ((⟨#[83, 116, 97, 116, 117, 115, 40]⟩ : ByteArray) ++ itB (u : Int)) ++ (⟨#[41]⟩ : ByteArray)
theorem stS_size (u : Nat) : (stS u).size = 7 + (itB (u : Int)).size + 1 := by
  unfold stS; rw [ByteArray.size_append, ByteArray.size_append]; rfl
theorem stS_pos (u : Nat) : 0 < (stS u).size := by rw [stS_size]; omega
theorem stS_head (u : Nat) : (stS u).extract 0 7 = ⟨#[83, 116, 97, 116, 117, 115, 40]⟩ := by
  unfold stS
  rw [ByteArray.append_assoc]
  exact ByteArray.extract_append_eq_left rfl
theorem stS_mid (u : Nat) : (stS u).extract 7 ((stS u).size - 1) = itB (u : Int) := by
  have e : (stS u).size - 1 = 7 + (itB (u : Int)).size := by rw [stS_size]; rfl
  rw [e]
  unfold stS
  rw [ByteArray.extract_append]
  have e1 : ((⟨#[83, 116, 97, 116, 117, 115, 40]⟩ : ByteArray) ++ itB (u : Int)).size = 7 + (itB (u : Int)).size := by rw [ByteArray.size_append]; rfl
  have e0 : ((⟨#[83, 116, 97, 116, 117, 115, 40]⟩ : ByteArray) ++ itB (u : Int)).extract 7 (7 + (itB (u : Int)).size) = itB (u : Int) := ByteArray.extract_append_eq_right rfl rfl
  rw [e1, e0]
  have e2 : (⟨#[41]⟩ : ByteArray).extract (7 - (7 + (itB (u : Int)).size)) (7 + (itB (u : Int)).size - (7 + (itB (u : Int)).size)) = ByteArray.empty := by
    apply ByteArray.ext
    rw [ByteArray.data_extract, Nat.sub_self]
    apply Array.eq_empty_of_size_eq_zero
    rw [Array.size_extract]
    omega
  rw [e2, ByteArray.append_empty]
theorem get_last (a : ByteArray) (c : UInt8) (k : Nat) (e : k = a.size) (b : ByteArray) (eb : b = a ++ ⟨#[c]⟩) (hk : k < b.size) : b[k] = c := by
  subst eb; subst e
  rw [ByteArray.getElem_append_right (Nat.le_refl _)]
  simp only [Nat.sub_self]
  rfl
theorem stS_last (u : Nat) (h : (stS u).size - 1 < (stS u).size) : (stS u)[(stS u).size - 1].toNat = 41 := by
  exact congrArg UInt8.toNat (get_last _ 41 _ (by rw [stS_size, ByteArray.size_append]; rfl) (stS u) rfl h)
theorem stS_list (u : Nat) : ∃ l, (stS u).toList = 83 :: l := by
  refine ⟨[116, 97, 116, 117, 115, 40] ++ (itB (u : Int)).data.toList ++ [41], ?_⟩
  unfold stS
  rw [toList_data]
  simp only [ByteArray.data_append, Array.toList_append]
  rfl
theorem stS_not (u : Nat) (c : UInt8) (l : List UInt8) (hc : c ≠ 83) : ((stS u).toList == c :: l) = false := by
  obtain ⟨r, hr⟩ := stS_list u
  rw [hr]
  simp
  intro h
  exact absurd h.symm hc
end Go.Proofs.Qxb6623274aDoor
