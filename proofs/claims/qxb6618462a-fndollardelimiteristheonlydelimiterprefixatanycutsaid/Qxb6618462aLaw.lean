/-
  The walk of the law (3).
-/
import Derived.Test.Qxb6618462aScan
import Derived.Laws.Concat
namespace Go.Proofs.Qxb6618462a
open Go.RowKit

/-- What the call at the whole text gives. -/
def Got (u g : ByteArray) : Prop := g = u.extract 0 g.size ∧ answers u g.size
theorem got_any (t : ByteArray) (w : World) (hs : t.size ≤ 1048576) :
    Calls Try.prog 5 #[.string t] w fun e w' => (∃ g, e = .returned (.string g) ∧ Got t g) ∧ w' = w := by
  refine (zz_any t w hs).mono fun e w' ⟨⟨n, he, hn⟩, hw⟩ => ⟨⟨_, he, ?_⟩, hw⟩
  unfold Got
  rw [size_cut t n hn.1]
  exact ⟨rfl, hn⟩
theorem head_in (a u g : ByteArray) (w : World) (hs : a.size ≤ 1048576) (ha : a = u.extract 0 a.size) (hau : a.size ≤ u.size) (hg : Got u g) (h : g.size ≤ a.size) :
    Calls Try.prog 5 #[.string a] w fun e w' => e = .returned (.string g) ∧ w' = w := by
  refine (zz_any a w hs).mono fun e w' ⟨⟨n, he, hn⟩, hw⟩ => ⟨?_, hw⟩
  rw [ha] at hn
  have := (answers_cut hau hg.2 hn).1 h
  subst this
  rw [he, ha, cut_cut u _ _ h, ← hg.1]
theorem head_out (a u g : ByteArray) (w : World) (hs : a.size ≤ 1048576) (ha : a = u.extract 0 a.size) (hau : a.size ≤ u.size) (hg : Got u g) (h : a.size < g.size) :
    Calls Try.prog 5 #[.string a] w fun e w' => e = .returned (.string ⟨#[]⟩) ∧ w' = w := by
  refine (zz_any a w hs).mono fun e w' ⟨⟨n, he, hn⟩, hw⟩ => ⟨?_, hw⟩
  rw [ha] at hn
  have := (answers_cut hau hg.2 hn).2 h
  subst this
  rw [he, cut_nil]
/-- The test of the first k bytes. -/
theorem test_any (u g : ByteArray) (k : Nat) (w : World) (hs : u.size ≤ 1048576) (h0 : 0 < u.size) (hd : ((u[0].toNat : Int) != 36) = false) (hk : 1 ≤ k) (hku : k ≤ u.size) (hg : Got u g) :
    Calls Try.prog 6 #[.string (u.extract 0 k)] w fun e w' => e = .returned (.bool ((g.size : Int) == (k : Int))) ∧ w' = w := by
  have hz : (u.extract 0 k).size = k := size_cut u k hku
  refine (isd_any (u.extract 0 k) w (by omega) (by omega) ?_).mono fun e w' ⟨⟨b, he, hb⟩, hw⟩ => ⟨?_, hw⟩
  · rw [ByteArray.getElem_extract]; simpa using hd
  · rw [he]
    refine ret_bool ?_
    rw [Bool.eq_iff_iff, hb, hz, isD_cut hku, answers_iff hk hg.2]
    simp; omega

set_option maxHeartbeats 1000000 in
theorem law_main (a b u : ByteArray) (w : World) (ha : a.size ≤ 4096) (hb : b.size ≤ 4096) (hu : a ++ b = u) (h0 : 0 < u.size) (hd : ((u[0].toNat : Int) != 36) = false) :
    Calls Try.prog 3 #[.string a, .string b] w fun e w' => e = .returned (.bool true) ∧ w' = w := by
  have HU : Hid (u.size = a.size + b.size) := by rw [← hu]; exact ByteArray.size_append
  have hau : a.size ≤ u.size := by have := HU.out; omega
  have hu2 : u.size ≤ 8192 := by have := HU.out; omega
  have HA : Hid (a = u.extract 0 a.size) := by rw [← hu]; exact (cut_join a b).symm
  have hmax : a.size ≤ maxLen := by unfold maxLen; omega
  have hmaxb : b.size ≤ maxLen := by unfold maxLen; omega
  have hdec : decide (a.size + b.size ≤ 1048576) = true := by simp; omega
  have hne : ¬ u = ByteArray.empty := fun e => by rw [e] at h0; simp at h0
  have hnz : ((u.size : Int) == 0) = false := by simp; exact hne
  go_enter Try.func3, Try.ntmps3
  go_wp2_with (go_at_call 4; refine (bytes_any _ _ _ hmax hmaxb).mono ?_; rintro e w' ⟨rfl, rfl⟩)
  refine (got_any u _ (by omega)).mono ?_
  rintro e w1 ⟨⟨g, rfl, hg⟩, rfl⟩
  have hcut : u.extract 0 g.size = g := hg.1.symm
  have hgu : g.size ≤ u.size := hg.2.1
  have hgn : ¬ u.size < g.size := by omega
  have HG : Hid (Got u g) := hg
  clear hg
  by_cases hin : g.size ≤ a.size
  · go_wp2_with (go_at_call 5; refine (head_in a u g _ (by omega) HA.out hau HG.out hin).mono ?_; rintro e w2 ⟨rfl, rfl⟩)
    go_loop [8] (fun i => ∃ k : Nat, 1 ≤ k ∧ k ≤ 1 + u.size ∧ i = .int .i64 k) (fun i => 1 + u.size - (intOf i).toNat)
    case atStart => exact ⟨1, Nat.le_refl _, by omega, rfl⟩
    case round =>
      obtain ⟨k, hk1, hk, rfl⟩ := hrel
      by_cases hlt : k ≤ u.size
      · go_wp2_with (go_at_call 6; refine (test_any u g k _ (by omega) h0 hd hk1 hlt HG.out).mono ?_; rintro e w3 ⟨rfl, hw3⟩; obtain rfl := hw3.symm)
        go_round
        case rel => exact ⟨k + 1, by omega, by omega, by go_num⟩
        case measure => simp [intOf]; omega
      · go_wp2
        go_ret
        exact ⟨rfl, rfl⟩
  · have hout : a.size < g.size := by omega
    go_wp2_with (go_at_call 5; refine (head_out a u g _ (by omega) HA.out hau HG.out hout).mono ?_; rintro e w2 ⟨rfl, rfl⟩)
    go_loop [8] (fun i => ∃ k : Nat, 1 ≤ k ∧ k ≤ 1 + u.size ∧ i = .int .i64 k) (fun i => 1 + u.size - (intOf i).toNat)
    case atStart => exact ⟨1, Nat.le_refl _, by omega, rfl⟩
    case round =>
      obtain ⟨k, hk1, hk, rfl⟩ := hrel
      by_cases hlt : k ≤ u.size
      · go_wp2_with (go_at_call 6; refine (test_any u g k _ (by omega) h0 hd hk1 hlt HG.out).mono ?_; rintro e w3 ⟨rfl, hw3⟩; obtain rfl := hw3.symm)
        go_round
        case rel => exact ⟨k + 1, by omega, by omega, by go_num⟩
        case measure => simp [intOf]; omega
      · go_wp2
        go_ret
        exact ⟨rfl, rfl⟩

set_option maxHeartbeats 1000000 in
theorem law_any (a b : ByteArray) (w : World) (hma : a.size ≤ maxLen) (hmb : b.size ≤ maxLen) :
    Calls Try.prog 3 #[.string a, .string b] w fun e w' => e = .returned (.bool true) ∧ w' = w := by
  by_cases hsum : a.size + b.size ≤ 1048576
  · have hdec : decide (a.size + b.size ≤ 1048576) = true := by simpa using hsum
    by_cases ha : a.size ≤ 4096
    · by_cases hb : b.size ≤ 4096
      · obtain ⟨u, hu⟩ : ∃ u, a ++ b = u := ⟨_, rfl⟩
        by_cases h0 : 0 < u.size
        · cases hd : ((u[0].toNat : Int) != 36)
          · exact law_main a b u w ha hb hu h0 hd
          · have hne : ¬ u = ByteArray.empty := fun e => by rw [e] at h0; simp at h0
            have hnz : ((u.size : Int) == 0) = false := by simp; exact hne
            go_enter Try.func3, Try.ntmps3
            go_wp2_with (go_at_call 4; refine (bytes_any _ _ _ hma hmb).mono ?_; rintro e w' ⟨rfl, rfl⟩)
            go_ret
            exact ⟨rfl, rfl⟩
        · have hnz : ((u.size : Int) == 0) = true := by simp; apply ByteArray.ext; apply Array.eq_empty_of_size_eq_zero; have : u.data.size = u.size := rfl; omega
          go_enter Try.func3, Try.ntmps3
          go_wp2_with (go_at_call 4; refine (bytes_any _ _ _ hma hmb).mono ?_; rintro e w' ⟨rfl, rfl⟩)
          go_ret
          exact ⟨rfl, rfl⟩
      · have hb' : 4096 < b.size := by omega
        go_enter Try.func3, Try.ntmps3
        go_wp2_with (go_at_call 4; refine (bytes_any _ _ _ hma hmb).mono ?_; rintro e w' ⟨rfl, rfl⟩)
        go_ret
        exact ⟨rfl, rfl⟩
    · have ha' : 4096 < a.size := by omega
      go_enter Try.func3, Try.ntmps3
      go_wp2_with (go_at_call 4; refine (bytes_any _ _ _ hma hmb).mono ?_; rintro e w' ⟨rfl, rfl⟩)
      go_ret
      exact ⟨rfl, rfl⟩
  · have hdec : decide (a.size + b.size ≤ 1048576) = false := by simpa using hsum
    go_enter Try.func3, Try.ntmps3
    go_wp2_with (go_at_call 4; refine (bytes_any _ _ _ hma hmb).mono ?_; rintro e w' ⟨rfl, rfl⟩)
    go_ret
    exact ⟨rfl, rfl⟩
end Go.Proofs.Qxb6618462a
