/-
  The walk of zzDecodeStatus (function 5) at a canonical text.
-/
import Derived.Test.Qxb6623274aDoorRows
import Derived.WalkKit
import Derived.WalkSpells
import Derived.WalkLawsBesides
namespace Go.Proofs.Qxb6623274aDoor
open Go.RowKit

theorem val_int {k : IntKind} {a b : Int} (h : a = b) : Value.int k a = .int k b := by rw [h]
theorem ret_pair {a b : Int} (h : a = b) : Ending.returned (.tuple #[.int .i64 a, .bool true]) = .returned (.tuple #[.int .i64 b, .bool true]) := by rw [h]
theorem acc_step (a a1 d : Nat) (h : a1 = 10 * a + d) : (a : Int) * 10 + (48 + (d : Int) - 48) = (a1 : Int) := by omega

set_option maxHeartbeats 400000 in
theorem decode_num (t d : ByteArray) (u : Nat) (g A : Nat → Nat) (w : World) (hs : t.size ≤ 100) (h9 : 9 ≤ t.size) (hd : t.extract 7 (t.size - 1) = d) (h7 : t.extract 0 7 = ⟨#[83, 116, 97, 116, 117, 115, 40]⟩)
    (hn1 : (t.toList == [109, 105, 115, 115]) = false) (hn2 : (t.toList == [104, 105, 116]) = false) (hn3 : (t.toList == [110, 111, 116, 45, 102, 111, 117, 110, 100]) = false)
    (hlt : t.size - 1 < t.size) (hl : (((t[t.size - 1]'hlt).toNat : Int) != 41) = false) (h0 : 0 < d.size) (h3 : d.size ≤ 3) (hz : ((d[0].toNat : Int) == 48) = false)
    (HA : Hid (∀ k, k < d.size → A (k + 1) = 10 * A k + g k)) (HD : Hid (∀ k (hk : k < d.size), d[k].toNat = 48 + g k ∧ g k ≤ 9)) (HU : Hid (∀ k, k ≤ d.size → A k ≤ 255))
    (HZ : Hid (A 0 = 0)) (HV : Hid (u = A d.size)) (hu : 3 ≤ u) :
    Calls Tryd.prog 5 #[.string t] w fun e w' => e = .returned (.tuple #[.int .i64 u, .bool true]) ∧ w' = w := by
  have h3n : ¬ 3 < d.size := by omega
  go_enter Tryd.func5, Tryd.ntmps5
  go_wp2
  go_loop [5, 6] (fun a i => ∃ k : Nat, k ≤ d.size ∧ i = .int .i64 k ∧ a = .int .i64 (A k : Int)) (fun _ i => d.size - (intOf i).toNat)
  case atStart => exact ⟨0, Nat.zero_le _, rfl, by rw [HZ.out]; rfl⟩
  case round =>
    obtain ⟨k, hk, rfl, rfl⟩ := hrel
    have hUk := HU.out k hk
    by_cases hlt : k < d.size
    · obtain ⟨hg, hg9⟩ := HD.out k hlt
      have HA' : Hid (A (k + 1) = 10 * A k + g k) := HA.out k hlt
      go_wp2
      go_round
      case rel => exact ⟨k + 1, by omega, by go_num, val_int (acc_step _ _ _ HA'.out)⟩
      case measure => simp [intOf]; omega
    · have HK : Hid (A k = u) := show A k = u by rw [HV.out, show k = d.size by omega]
      have hA3 : 3 ≤ A k := by rw [HK.out]; exact hu
      go_wp2
      go_ret2
      exact ⟨ret_pair (congrArg _ HK.out), rfl⟩
end Go.Proofs.Qxb6623274aDoor
