/-
  The walk of zzReadsAsVersion (function 5) over toys/qxb6618402adoor: at a string whose bytes are "version " and a canonical numeral it answers true.
-/
import Derived.Test.Qxb6618402aDoorRows
import Derived.WalkKit
import Derived.WalkSpells
import Derived.WalkLawsBesides
namespace Go.Proofs.Qxb6618402aDoor
open Go.RowKit

theorem guard_no (a d : Nat) (h : 10 * a + d ≤ 9223372036854775808) : ¬ (-(a : Int)) < (-9223372036854775808 + (48 + (d : Int) - 48)).tdiv 10 := by
  have e : (-9223372036854775808 + (48 + (d : Int) - 48)) = -((9223372036854775808 - d : Nat) : Int) := by omega
  rw [e, Int.neg_tdiv, Int.tdiv_eq_ediv_of_nonneg (by omega)]
  omega
theorem acc_step (a a1 d : Nat) (h : a1 = 10 * a + d) : (-(a : Int)) * 10 - (48 + (d : Int) - 48) = -(a1 : Int) := by omega
theorem val_int {k : IntKind} {a b : Int} (h : a = b) : Value.int k a = .int k b := by rw [h]

set_option maxHeartbeats 400000 in
/-- No sign: "version " and digits. -/
theorem reads_pos (s t : ByteArray) (v : Int) (d A : Nat → Nat) (w : World) (hs : s.size ≤ 100) (h9 : 9 ≤ s.size) (ht : s.extract 8 s.size = t) (h8 : s.extract 0 8 = ⟨#[118, 101, 114, 115, 105, 111, 110, 32]⟩) (hts : t.size = s.size - 8) (h0 : 0 < t.size)
    (hm : ((t[0].toNat : Int) == 45) = false) (hz : ((t[0].toNat : Int) == 48) = false ∨ (((t[0].toNat : Int) == 48) = true ∧ s.size ≤ 9))
    (HA : Hid (∀ k, k < t.size → A (k + 1) = 10 * A k + d k)) (HD : Hid (∀ k (hk : k < t.size), t[k].toNat = 48 + d k ∧ d k ≤ 9)) (HU : Hid (∀ k, k ≤ t.size → A k ≤ 9223372036854775808))
    (HZ : Hid (A 0 = 0)) (HV : Hid (v = (A t.size : Int))) (hv0 : 0 ≤ v) (hv1 : v ≤ 9223372036854775807) :
    Calls Tryd.prog 5 #[.string s, .int .i64 v] w fun e w' => e = .returned (.bool true) ∧ w' = w := by
  rcases hz with hz | ⟨hz, hz9⟩
  all_goals
    go_enter Tryd.func5, Tryd.ntmps5
    go_wp2
    go_loop [7, 8] (fun i a => ∃ k : Nat, k ≤ t.size ∧ i = .int .i64 k ∧ a = .int .i64 (-(A k : Int))) (fun i _ => t.size - (intOf i).toNat)
    case atStart => exact ⟨0, Nat.zero_le _, rfl, by rw [HZ.out]; rfl⟩
    case round =>
      obtain ⟨k, hk, rfl, rfl⟩ := hrel
      by_cases hlt : k < t.size
      · obtain ⟨hd, hd9⟩ := HD.out k hlt
        have HA' : Hid (A (k + 1) = 10 * A k + d k) := HA.out k hlt
        have hU := HU.out (k + 1) (by omega)
        rw [HA'.out] at hU
        have hg := guard_no (A k) (d k) hU
        go_wp2
        go_round
        case rel => exact ⟨_, _, _, ⟨k + 1, by omega, rfl, rfl⟩, rfl, by go_num, val_int (acc_step _ _ _ HA'.out)⟩
        case measure => simp [intOf]; omega
      · have HK : Hid (k = t.size) := show k = t.size by omega
        go_wp2
        go_ret
        refine ⟨?_, rfl⟩
        congr 2
        rw [HK.out, HV.out]; simp

set_option maxHeartbeats 400000 in
/-- A minus sign: "version -" and digits, the first of them not 0. -/
theorem reads_neg (s t : ByteArray) (v : Int) (d A : Nat → Nat) (w : World) (hs : s.size ≤ 100) (h10 : 10 ≤ s.size) (ht : s.extract 8 s.size = t) (h8 : s.extract 0 8 = ⟨#[118, 101, 114, 115, 105, 111, 110, 32]⟩) (hts : t.size = s.size - 8) (h0 : 0 < t.size) (h1 : 1 < t.size)
    (hm : ((t[0].toNat : Int) == 45) = true) (hz : ((t[1].toNat : Int) == 48) = false)
    (HA : Hid (∀ k, 1 ≤ k → k < t.size → A (k + 1) = 10 * A k + d k)) (HD : Hid (∀ k (_ : 1 ≤ k) (hk : k < t.size), t[k].toNat = 48 + d k ∧ d k ≤ 9)) (HU : Hid (∀ k, 1 ≤ k → k ≤ t.size → A k ≤ 9223372036854775808))
    (HZ : Hid (A 1 = 0)) (HV : Hid (v = -(A t.size : Int))) :
    Calls Tryd.prog 5 #[.string s, .int .i64 v] w fun e w' => e = .returned (.bool true) ∧ w' = w := by
  go_enter Tryd.func5, Tryd.ntmps5
  go_wp2
  go_loop [7, 8] (fun i a => ∃ k : Nat, 1 ≤ k ∧ k ≤ t.size ∧ i = .int .i64 k ∧ a = .int .i64 (-(A k : Int))) (fun i _ => t.size - (intOf i).toNat)
  case atStart => exact ⟨1, Nat.le_refl _, by omega, rfl, by rw [HZ.out]; rfl⟩
  case round =>
    obtain ⟨k, hk1, hk, rfl, rfl⟩ := hrel
    by_cases hlt : k < t.size
    · obtain ⟨hd, hd9⟩ := HD.out k hk1 hlt
      have HA' : Hid (A (k + 1) = 10 * A k + d k) := HA.out k hk1 hlt
      have hU := HU.out (k + 1) (by omega) (by omega)
      rw [HA'.out] at hU
      have hg := guard_no (A k) (d k) hU
      go_wp2
      go_round
      case rel => exact ⟨k + 1, by omega, by omega, by go_num, val_int (acc_step _ _ _ HA'.out)⟩
      case measure => simp [intOf]; omega
    · have HK : Hid (k = t.size) := show k = t.size by omega
      go_wp2
      go_ret
      refine ⟨?_, rfl⟩
      congr 2
      rw [HK.out, HV.out]; simp

end Go.Proofs.Qxb6618402aDoor
