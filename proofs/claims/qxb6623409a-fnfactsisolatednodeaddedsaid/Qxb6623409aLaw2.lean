/-
  The walk of FnFactsIsolatedNodeAdded (4).
-/
import Derived.Test.Qxb6623409aFill
import Derived.Deep.CutBlock
namespace Go.Proofs.Qxb6623409a
open Go.RowKit

set_option maxRecDepth 100000 in
set_option maxHeartbeats 4000000 in
theorem law2_main (x0 : Addr) (n0 c0 : Nat) (z0 : List Int) (a1 : Option Addr) (n1 c1 : Nat) (z1 : List Int) (a2 : Option Addr) (n2 c2 : Nat) (z2 : List Int) (x3 : Addr) (n3 c3 : Nat) (z3 : List Int) (w : World)
    (r0 : ∀ i, i < z0.length → w.cell? (x0.add i) = some (.int .i64 (z0.getD i 0))) (l0 : n0 ≤ z0.length) (l0' : z0.length ≤ n0) (w1 : IsRow .i32 w a1 n1 c1 z1) (w2 : IsRow .i32 w a2 n2 c2 z2) (r3 : ∀ i, i < z3.length → w.cell? (x3.add i) = some (.int .i64 (z3.getD i 0))) (l3 : n3 ≤ z3.length) (l3' : z3.length ≤ n3)
    (hn0 : n0 ≤ 65536) (hn1 : n1 ≤ 65536) (hn2 : n2 ≤ 65536) (hn3 : n3 ≤ 65536) (hb : 8 * n0 + 4 * n1 + 4 * n2 + 8 * n3 ≤ 1048576) (h2 : 2 ≤ n0) (h1 : 1 ≤ n3) :
    Calls Try.prog 4 #[.slice (some x0) n0 c0, .slice a1 n1 c1, .slice a2 n2 c2, .slice (some x3) n3 c3] w fun e w' => e = .returned (.bool true) ∧ Below w.heap.size w w' := by
  have HR0 : Hid (∀ i, i < z0.length → w.cell? (x0.add i) = some (.int .i64 (z0.getD i 0))) := r0
  have HR3 : Hid (∀ i, i < z3.length → w.cell? (x3.add i) = some (.int .i64 (z3.getD i 0))) := r3
  have HW1 : Hid (IsRow .i32 w a1 n1 c1 z1) := w1
  have HW2 : Hid (IsRow .i32 w a2 n2 c2 z2) := w2
  clear r0 r3 w1 w2
  have hdec : decide (n0 + n1 + n2 + n3 ≤ 1048576) = true := by simp; omega
  have q22 := fun (w : World) (a : Option Addr) (n c n' c' : Nat) => run_neq_slice_nil_any (P := Try.prog) w 22 3 a n c n' c' Try.underlying22
  have q23 := fun (w : World) (a : Option Addr) (n c n' c' : Nat) => run_neq_slice_nil_any (P := Try.prog) w 23 21 a n c n' c' Try.underlying23
  have mk0 := fun (w : World) => run_make_row' (P := Try.prog) 22 3 (.int .i64 0) 8 Try.underlying22 info3 rfl .i64 .i64 n0 (by omega) (by omega) w
  go_enter Try.func4, Try.ntmps4
  go_upto_if 71 with (go_at_call 7; refine (bytes7 _ _ _ _ _ _ _ _ _ _ _ _ _ (by unfold maxLen; omega) (by unfold maxLen; omega) (by unfold maxLen; omega) (by unfold maxLen; omega)).mono ?_; rintro e w' ⟨rfl, hw'⟩; obtain rfl := hw'.symm)
  go_cut [0] (fun s0 wc => ∃ g0, s0 = .slice (some ⟨g0, 0, none⟩) n0 n0 ∧ Hid ((∀ j, j < n0 → wc.cell? ⟨g0, j, none⟩ = some (.int .i64 (z0.getD j 0))) ∧ Below w.heap.size w wc))
  case first =>
    as_aux_lemma =>
      obtain ⟨W5, cp, hg5, hb5⟩ := copy_made .i64 22 3 Try.underlying22 size3 w w (Below.refl _ _) x0 n0 c0 z0 l0 HR0.out
      have HC : Hid ((∀ j, j < n0 → W5.cell? ⟨w.heap.size, j, none⟩ = some (.int .i64 (z0.getD j 0))) ∧ Below w.heap.size w W5) := ⟨copied_cells l0 hg5, hb5⟩
      clear hg5 hb5
      go_wp2
      go_meet
      exact ⟨_, rfl, HC⟩
  case rest =>
    obtain ⟨wa, rfl⟩ : ∃ wa : World, wa = wc := ⟨_, rfl⟩
    obtain ⟨g0, rfl, H0⟩ := hcut
    clear mk0
    have mk1 := fun (w : World) => run_make_row' (P := Try.prog) 23 21 (.int .i32 0) 4 Try.underlying23 info21 rfl .i64 .i64 n1 (by omega) (by omega) w
    go_upto_if 80 with fail
    go_cut [1] (fun s1 wd => ∃ a c, s1 = .slice a n1 c ∧ Hid (Below wa.heap.size wa wd))
    case first =>
      as_aux_lemma =>
        rcases HW1.out with ⟨rfl, rfl, rfl, rfl⟩ | ⟨x1, rfl, hl1, _, hz1, hc1, _⟩
        · go_wp2
          go_meet
          exact ⟨_, _, rfl, Below.refl _ _⟩
        · obtain ⟨W5, cp, _, hb5⟩ := copy_made .i32 23 21 Try.underlying23 size21 w wa H0.out.2 x1 n1 c1 z1 (by omega) hc1
          have HC : Hid (Below wa.heap.size wa W5) := hb5
          clear hb5 hc1
          go_wp2
          go_meet
          exact ⟨_, _, rfl, HC⟩
    case rest =>
      obtain ⟨wb, rfl⟩ : ∃ wb : World, wb = wc := ⟨_, rfl⟩
      obtain ⟨d1, e1, rfl, H1⟩ := hcut
      have HB1 : Hid (Below w.heap.size w wb) := H0.out.2.trans (H1.out.mono H0.out.2.size)
      clear mk1
      have mk2 := fun (w : World) => run_make_row' (P := Try.prog) 23 21 (.int .i32 0) 4 Try.underlying23 info21 rfl .i64 .i64 n2 (by omega) (by omega) w
      go_upto_if 89 with fail
      go_cut [2] (fun s2 wd => ∃ a c, s2 = .slice a n2 c ∧ Hid ((0 < n2 → ∃ g2, a = some ⟨g2, 0, none⟩ ∧ ∀ j, j < n2 → wd.cell? ⟨g2, j, none⟩ = some (.int .i32 (z2.getD j 0))) ∧ Below wb.heap.size wb wd))
      case first =>
        as_aux_lemma =>
          rcases HW2.out with ⟨rfl, rfl, rfl, rfl⟩ | ⟨x1, rfl, hl1, _, hz1, hc1, _⟩
          · go_wp2
            go_meet
            exact ⟨_, _, rfl, fun h => by omega, Below.refl _ _⟩
          · obtain ⟨W5, cp, hg5, hb5⟩ := copy_made .i32 23 21 Try.underlying23 size21 w wb HB1.out x1 n2 c2 z2 (by omega) hc1
            have HC : Hid ((0 < n2 → ∃ g2, some (⟨wb.heap.size, 0, none⟩ : Addr) = some ⟨g2, 0, none⟩ ∧ ∀ j, j < n2 → W5.cell? ⟨g2, j, none⟩ = some (.int .i32 (z2.getD j 0))) ∧ Below wb.heap.size wb W5) := ⟨fun _ => ⟨_, rfl, copied_cells (by omega) hg5⟩, hb5⟩
            clear hb5 hc1 hg5
            go_wp2
            go_meet
            exact ⟨_, _, rfl, HC⟩
      case rest =>
        obtain ⟨wd, rfl⟩ : ∃ wd : World, wd = wc := ⟨_, rfl⟩
        obtain ⟨d2, e2, rfl, H2⟩ := hcut
        have HB2 : Hid (Below w.heap.size w wd) := HB1.out.trans (H2.out.2.mono HB1.out.size)
        clear mk2
        have mk3 := fun (w : World) => run_make_row' (P := Try.prog) 22 3 (.int .i64 0) 8 Try.underlying22 info3 rfl .i64 .i64 n3 (by omega) (by omega) w
        go_upto_if 98 with fail
        go_cut [3] (fun s3 we => ∃ g3, s3 = .slice (some ⟨g3, 0, none⟩) n3 n3 ∧ Hid ((∀ j, j < n3 → we.cell? ⟨g3, j, none⟩ = some (.int .i64 (z3.getD j 0))) ∧ Below wd.heap.size wd we))
        case first =>
          as_aux_lemma =>
            obtain ⟨W5, cp, hg5, hb5⟩ := copy_made .i64 22 3 Try.underlying22 size3 w wd HB2.out x3 n3 c3 z3 l3 HR3.out
            have HC : Hid ((∀ j, j < n3 → W5.cell? ⟨wd.heap.size, j, none⟩ = some (.int .i64 (z3.getD j 0))) ∧ Below wd.heap.size wd W5) := ⟨copied_cells l3 hg5, hb5⟩
            clear hg5 hb5
            go_wp2
            go_meet
            exact ⟨_, rfl, HC⟩
        case rest =>
          obtain ⟨we, rfl⟩ : ∃ we : World, we = wc := ⟨_, rfl⟩
          obtain ⟨g3, rfl, H3⟩ := hcut
          have HB3 : Hid (Below w.heap.size w we) := HB2.out.trans (H3.out.2.mono HB2.out.size)
          have M0 : Hid (∀ j, j < n0 → we.cell? ⟨g0, j, none⟩ = some (.int .i64 (z0.getD j 0))) := fun j hj => cell_later H3.out.2 (cell_later H2.out.2 (cell_later H1.out (H0.out.1 j hj)))
          have M3 : Hid (∀ j, j < z3.length → we.cell? ⟨g3, j, none⟩ = some (.int .i64 (z3.getD j 0))) := fun j hj => H3.out.1 j (by omega)
          have M2 : Hid (0 < n2 → ∃ g2, d2 = some ⟨g2, 0, none⟩ ∧ ∀ j, j < n2 → we.cell? ⟨g2, j, none⟩ = some (.int .i32 (z2.getD j 0))) := fun h => by
            obtain ⟨g2, e, hc⟩ := H2.out.1 h
            exact ⟨g2, e, fun j hj => cell_later H3.out.2 (hc j hj)⟩
          clear mk3 q22 q23 hdec H0 H1 H2 H3 HB1 HB2 HR0 HR3 HW1 HW2
          have mk4 := fun (w : World) => run_make_row' (P := Try.prog) 22 3 (.int .i64 0) 8 Try.underlying22 info3 rfl .i64 .i64 (n0 + 1) (by omega) (by omega) w
          have ec0 : ((n0 + 1 : Nat) : Int) = (n0 : Int) + 1 := by omega
          rw [ec0] at mk4
          clear ec0
          have HZ : Hid (z0.length = n0) := show z0.length = n0 by omega
          have HZ3 : Hid (z3.length = n3) := show z3.length = n3 by omega
          obtain ⟨L, hL⟩ : ∃ L, Lib.maxOf (z3.take n3) = L := ⟨_, rfl⟩
          obtain ⟨mn, hmn⟩ : ∃ mn, mins z0 (n0 - 1) = mn := ⟨_, rfl⟩
          obtain ⟨mx, hmx⟩ : ∃ mx, maxs z0 (n0 - 1) = mx := ⟨_, rfl⟩
          have HL : Hid (Lib.maxOf (z3.take n3) = L) := hL
          have HMN : Hid (mins z0 (n0 - 1) = mn) := hmn
          have HMX : Hid (maxs z0 (n0 - 1) = mx) := hmx
          obtain ⟨lst, hlst⟩ : ∃ lst, z0.getD (n0 - 1) 0 = lst := ⟨_, rfl⟩
          have HLST : Hid (z0.getD (n0 - 1) 0 = lst) := hlst
          obtain ⟨Z, hZ⟩ : ∃ Z, Z = more z0 lst := ⟨_, rfl⟩
          have HZd : Hid (Z = more z0 lst) := hZ
          obtain ⟨Y, hY⟩ : ∃ Y, Y = more z3 1 := ⟨_, rfl⟩
          have HYd : Hid (Y = more z3 1) := hY
          clear hL hmn hmx hlst hZ hY
          go_upto_block 0 with fail
          go_cut [15] (fun s wx => s = .int .i64 n0 ∧ Hid (Fill .i64 wx we.heap.size (n0 + 1) Z n0 ∧ Below we.heap.size we wx))
          case first =>
            as_aux_lemma =>
              have FM : Hid (Fill .i64 (we.alloc (.cells (madeCells #[Value.int .i64 0] (n0 + 1)) 3)) we.heap.size (n0 + 1) Z 0) := Fill.made .i64 we (n0 + 1) 3 Z
              clear mk4
              go_wp2_with fail
              go_loopw [15] (fun t wr => ∃ i : Nat, i ≤ n0 ∧ t = .int .i64 i ∧ Hid (Fill .i64 wr we.heap.size (n0 + 1) Z i ∧ Below we.heap.size we wr)) (fun t _ => n0 - (intOf t).toNat)
              case atStart => exact ⟨0, Nat.zero_le _, rfl, FM.out, bel1 _ _⟩
              case round =>
                obtain ⟨i, hi, rfl, HF⟩ := hrel
                by_cases hlt : i < n0
                · have hlt' : (i : Int) < (n0 : Int) := by omega
                  have hlt1 : (i : Int) < (n0 : Int) + 1 := by omega
                  obtain ⟨x, hx⟩ := HF.out.1.there i (by omega)
                  have hfr := HF.out.1.free i (by omega)
                  obtain ⟨q, hq⟩ : ∃ q, z0.getD i 0 = q := ⟨_, rfl⟩
                  have hcx : wr.cell? ⟨g0, i, none⟩ = some (.int .i64 q) := by rw [← hq]; exact cell_later HF.out.2 (M0.out i hlt)
                  have HQ : Hid (Z.getD i 0 = q) := show Z.getD i 0 = q by rw [HZd.out, more_at z0 lst i (by rw [HZ.out]; exact hlt)]; exact hq
                  clear hq
                  go_wp2
                  go_roundw
                  case rel => exact ⟨i + 1, by omega, by go_num, HF.out.1.step (by omega) q HQ.out, HF.out.2.setCell (Nat.le_refl _) _⟩
                  case measure => simp [intOf]; omega
                · have hge : (n0 : Int) ≤ (i : Int) := by omega
                  obtain rfl : i = n0 := by omega
                  go_wp2
                  go_meet
                  exact ⟨rfl, HF.out⟩
          case rest =>
          obtain ⟨wA, rfl⟩ : ∃ wA : World, wA = wc := ⟨_, rfl⟩
          obtain ⟨rfl, HA⟩ := hcut
          have hs1 : we.heap.size < wA.heap.size := by
            obtain ⟨x, hx⟩ := HA.out.1.there 0 (by omega)
            exact World.block_lt_of_cell? wA ⟨we.heap.size, 0, none⟩ hx
          obtain ⟨x, hx⟩ := HA.out.1.there n0 (by omega)
          have hfr := HA.out.1.free n0 (by omega)
          have hcx : wA.cell? ⟨g0, n0 - 1, none⟩ = some (.int .i64 lst) := by rw [← HLST.out]; exact cell_later HA.out.2 (M0.out (n0 - 1) (by omega))
          have hb0 : (0 : Int) ≤ (n0 : Int) - 1 := by omega
          have hb1 : (n0 : Int) - 1 < (n0 : Int) := by omega
          have hb2 : (n0 : Int) < (n0 : Int) + 1 := by omega
          clear mk4
          have mk5 := fun (w : World) => run_make_row' (P := Try.prog) 23 21 (.int .i32 0) 4 Try.underlying23 info21 rfl .i64 .i64 (n2 + 1) (by omega) (by omega) w
          have ec2 : ((n2 + 1 : Nat) : Int) = (n2 : Int) + 1 := by omega
          rw [ec2] at mk5
          clear ec2
          go_upto_block 2 with fail
          obtain ⟨W1, hW1⟩ : ∃ W1, W1 = wA.setCell ⟨we.heap.size, n0, none⟩ (.int .i64 lst) := ⟨_, rfl⟩
          have HW1 : Hid (Fill .i64 W1 we.heap.size (n0 + 1) Z (n0 + 1) ∧ Below we.heap.size we W1 ∧ W1.heap.size = wA.heap.size) := by
            rw [hW1]
            exact ⟨HA.out.1.step (by omega) lst (by rw [HZd.out]; exact more_last z0 lst n0 HZ.out.symm), HA.out.2.setCell (Nat.le_refl _) _, size_set _ _ _⟩
          rw [← hW1]
          clear hW1 hx hfr hcx hb0 hb1 hb2 mk5
          go_cut [17] (fun s wx => s = .int .i64 n2 ∧ Hid (Fill .i32 wx wA.heap.size (n2 + 1) [] 0 ∧ Below wA.heap.size W1 wx))
          case first =>
            as_aux_lemma =>
              have FM : Hid (Fill .i32 (W1.alloc (.cells (madeCells #[Value.int .i32 0] (n2 + 1)) 21)) wA.heap.size (n2 + 1) [] 0) := by
                have := Fill.made .i32 W1 (n2 + 1) 21 []
                rw [HW1.out.2.2] at this
                exact this
              have FB : Hid (Below wA.heap.size W1 (W1.alloc (.cells (madeCells #[Value.int .i32 0] (n2 + 1)) 21))) := by
                have := bel1 W1 (.cells (madeCells #[Value.int .i32 0] (n2 + 1)) 21)
                rw [HW1.out.2.2] at this
                exact this
              go_wp2_with fail
              go_loopw [17] (fun t wr => ∃ i : Nat, i ≤ n2 ∧ t = .int .i64 i ∧ Hid (Fill .i32 wr wA.heap.size (n2 + 1) [] 0 ∧ Below wA.heap.size W1 wr)) (fun t _ => n2 - (intOf t).toNat)
              case atStart => exact ⟨0, Nat.zero_le _, rfl, FM.out, FB.out⟩
              case round =>
                obtain ⟨i, hi, rfl, HF⟩ := hrel
                by_cases hlt : i < n2
                · have hlt' : (i : Int) < (n2 : Int) := by omega
                  have hlt1 : (i : Int) < (n2 : Int) + 1 := by omega
                  obtain ⟨x, hx⟩ := HF.out.1.there i (by omega)
                  have hfr := HF.out.1.free i (by omega)
                  obtain ⟨g2, rfl, hc2⟩ := M2.out (by omega)
                  obtain ⟨q, hq⟩ : ∃ q, z2.getD i 0 = q := ⟨_, rfl⟩
                  have hcx : wr.cell? ⟨g2, i, none⟩ = some (.int .i32 q) := by rw [← hq]; exact cell_later (HW1.out.2.1.trans (HF.out.2.mono (Nat.le_of_lt hs1))) (hc2 i hlt)
                  clear hq hc2
                  go_wp2
                  go_roundw
                  case rel => exact ⟨i + 1, by omega, by go_num, HF.out.1.set i (by omega) (Nat.zero_le _) q, HF.out.2.setCell (Nat.le_refl _) _⟩
                  case measure => simp [intOf]; omega
                · have hge : (n2 : Int) ≤ (i : Int) := by omega
                  obtain rfl : i = n2 := by omega
                  go_wp2
                  go_meet
                  exact ⟨rfl, HF.out⟩
          case rest =>
          obtain ⟨wB, rfl⟩ : ∃ wB : World, wB = wc := ⟨_, rfl⟩
          obtain ⟨rfl, HB⟩ := hcut
          have hs2 : wA.heap.size < wB.heap.size := by
            obtain ⟨x, hx⟩ := HB.out.1.there 0 (by omega)
            exact World.block_lt_of_cell? wB ⟨wA.heap.size, 0, none⟩ hx
          obtain ⟨y, hy⟩ := HB.out.1.there n2 (by omega)
          have hfy := HB.out.1.free n2 (by omega)
          have hb2 : (n2 : Int) < (n2 : Int) + 1 := by omega
          have mk6 := fun (w : World) => run_make_row' (P := Try.prog) 22 3 (.int .i64 0) 8 Try.underlying22 info3 rfl .i64 .i64 (n3 + 1) (by omega) (by omega) w
          have ec3 : ((n3 + 1 : Nat) : Int) = (n3 : Int) + 1 := by omega
          rw [ec3] at mk6
          clear ec3
          go_upto_block 4 with fail
          obtain ⟨W2, hW2⟩ : ∃ W2, W2 = wB.setCell ⟨wA.heap.size, n2, none⟩ (.int .i32 n3) := ⟨_, rfl⟩
          have HW2 : Hid (Below wA.heap.size W1 W2 ∧ W2.heap.size = wB.heap.size) := by
            rw [hW2]
            exact ⟨HB.out.2.setCell (Nat.le_refl _) _, size_set _ _ _⟩
          rw [← hW2]
          clear hW2 hy hfy hb2 mk6
          go_cut [19] (fun s wx => s = .int .i64 n3 ∧ Hid (Fill .i64 wx wB.heap.size (n3 + 1) Y n3 ∧ Below wB.heap.size W2 wx))
          case first =>
            as_aux_lemma =>
              have FM : Hid (Fill .i64 (W2.alloc (.cells (madeCells #[Value.int .i64 0] (n3 + 1)) 3)) wB.heap.size (n3 + 1) Y 0) := by
                have := Fill.made .i64 W2 (n3 + 1) 3 Y
                rw [HW2.out.2] at this
                exact this
              have FB : Hid (Below wB.heap.size W2 (W2.alloc (.cells (madeCells #[Value.int .i64 0] (n3 + 1)) 3))) := by
                have := bel1 W2 (.cells (madeCells #[Value.int .i64 0] (n3 + 1)) 3)
                rw [HW2.out.2] at this
                exact this
              have HO : Hid (Below we.heap.size we W2) := HW1.out.2.1.trans (HW2.out.1.mono (Nat.le_of_lt hs1))
              go_wp2_with fail
              go_loopw [19] (fun t wr => ∃ i : Nat, i ≤ n3 ∧ t = .int .i64 i ∧ Hid (Fill .i64 wr wB.heap.size (n3 + 1) Y i ∧ Below wB.heap.size W2 wr)) (fun t _ => n3 - (intOf t).toNat)
              case atStart => exact ⟨0, Nat.zero_le _, rfl, FM.out, FB.out⟩
              case round =>
                obtain ⟨i, hi, rfl, HF⟩ := hrel
                by_cases hlt : i < n3
                · have hlt' : (i : Int) < (n3 : Int) := by omega
                  have hlt1 : (i : Int) < (n3 : Int) + 1 := by omega
                  obtain ⟨x, hx⟩ := HF.out.1.there i (by omega)
                  have hfr := HF.out.1.free i (by omega)
                  obtain ⟨q, hq⟩ : ∃ q, z3.getD i 0 = q := ⟨_, rfl⟩
                  have hcx : wr.cell? ⟨g3, i, none⟩ = some (.int .i64 q) := by rw [← hq]; exact cell_later (HO.out.trans (HF.out.2.mono (by omega))) (M3.out i (by omega))
                  have HQ : Hid (Y.getD i 0 = q) := show Y.getD i 0 = q by rw [HYd.out, more_at z3 1 i (by rw [HZ3.out]; exact hlt)]; exact hq
                  clear hq
                  go_wp2
                  go_roundw
                  case rel => exact ⟨i + 1, by omega, by go_num, HF.out.1.step (by omega) q HQ.out, HF.out.2.setCell (Nat.le_refl _) _⟩
                  case measure => simp [intOf]; omega
                · have hge : (n3 : Int) ≤ (i : Int) := by omega
                  obtain rfl : i = n3 := by omega
                  go_wp2
                  go_meet
                  exact ⟨rfl, HF.out⟩
          case rest =>
          obtain ⟨wC, rfl⟩ : ∃ wC : World, wC = wc := ⟨_, rfl⟩
          obtain ⟨rfl, HC⟩ := hcut
          have hs3 : wB.heap.size < wC.heap.size := by
            obtain ⟨x, hx⟩ := HC.out.1.there 0 (by omega)
            exact World.block_lt_of_cell? wC ⟨wB.heap.size, 0, none⟩ hx
          obtain ⟨y, hy⟩ := HC.out.1.there n3 (by omega)
          have hfy := HC.out.1.free n3 (by omega)
          have hb3 : (n3 : Int) < (n3 : Int) + 1 := by omega
          have FW1 : Hid (Fill .i64 (wC.setCell ⟨wB.heap.size, n3, none⟩ (.int .i64 1)) we.heap.size (n0 + 1) Z (n0 + 1)) :=
            ((HW1.out.1.later HW2.out.1 hs1).later HC.out.2 (by omega)).later ((Below.refl wB.heap.size wC).setCell (Nat.le_refl _) _) (by omega)
          have FW3 : Hid (Fill .i64 (wC.setCell ⟨wB.heap.size, n3, none⟩ (.int .i64 1)) wB.heap.size (n3 + 1) Y (n3 + 1)) :=
            HC.out.1.step (by omega) 1 (by rw [HYd.out]; exact more_last z3 1 n3 HZ3.out.symm)
          have OB : Hid (Below we.heap.size we (wC.setCell ⟨wB.heap.size, n3, none⟩ (.int .i64 1))) :=
            ((HW1.out.2.1.trans (HW2.out.1.mono (Nat.le_of_lt hs1))).trans (HC.out.2.mono (by omega))).setCell (show we.heap.size ≤ wB.heap.size by omega) _
          go_wp2_with fail
          refine (zz_first g0 n0 n0 z0 d1 n1 e1 d2 n2 e2 g3 n3 n3 z3 _ L mn mx HL.out HMN.out HMX.out (fun j hj => cell_later OB.out (M0.out j hj)) (fun j hj => cell_later OB.out (M3.out j (by omega))) HZ3.out h2 hn0 hn1 h1 hn3).mono ?_
          rintro e w7 ⟨rfl, hb7⟩
          have hs7 : wC.heap.size ≤ w7.heap.size := by have := hb7.size; rw [size_set] at this; exact this
          have F1 : Hid (Fill .i64 w7 we.heap.size (n0 + 1) Z (n0 + 1)) := FW1.out.later hb7 (by rw [size_set]; omega)
          have F3 : Hid (Fill .i64 w7 wB.heap.size (n3 + 1) Y (n3 + 1)) := FW3.out.later hb7 (by rw [size_set]; omega)
          have O7 : Hid (Below w.heap.size w w7) := (HB3.out.trans (OB.out.mono HB3.out.size)).trans (hb7.mono (Nat.le_trans HB3.out.size OB.out.size))
          clear hb7 FW1 FW3 OB hy hfy hb3 HA HB HC HW1 HW2 M0 M2 M3 HB3
          go_wp2_with fail
          refine (zz_second we.heap.size n0 z0 d1 n1 e1 (some ⟨wA.heap.size, 0, none⟩) (n2 + 1) (n2 + 1) wB.heap.size n3 z3 _ L mn mx HL.out HMN.out HMX.out (by rw [HLST.out, ← HZd.out]; exact F1.out.later (bel1 w7 _) (by omega)) (by rw [← HYd.out]; exact F3.out.later (bel1 w7 _) (by omega)) HZ.out HZ3.out h2 hn0 hn1 h1 hn3).mono ?_
          rintro e w8 ⟨rfl, hb8⟩
          have hs8 : w7.heap.size < w8.heap.size := by have := hb8.size; simp at this; omega
          have q0 : w8.cell? ⟨w7.heap.size, 0, none⟩ = some (.int .i64 (n0 - 1)) := by rw [(bcell hb8).1 _ _ (by simp)]; simp
          have q1 : w8.cell? ⟨w7.heap.size, 1, none⟩ = some (.int .i64 (n1 / 2)) := by rw [(bcell hb8).1 _ _ (by simp)]; simp
          have q2 : w8.cell? ⟨w7.heap.size, 2, none⟩ = some (.int .i64 n3) := by rw [(bcell hb8).1 _ _ (by simp)]; simp
          have q3 : w8.cell? ⟨w7.heap.size, 3, none⟩ = some (.int .i64 L) := by rw [(bcell hb8).1 _ _ (by simp)]; simp
          have q4 : w8.cell? ⟨w7.heap.size, 4, none⟩ = some (.int .i64 mn) := by rw [(bcell hb8).1 _ _ (by simp)]; simp
          have q5 : w8.cell? ⟨w7.heap.size, 5, none⟩ = some (.int .i64 mx) := by rw [(bcell hb8).1 _ _ (by simp)]; simp
          have O8 : Hid (Below w.heap.size w w8) := (O7.out.trans ((bel1 w7 _).mono O7.out.size)).trans (hb8.mono (by have := O7.out.size; simp; omega))
          clear hb8 F1 F3 O7 HL HMN HMX HLST HZd HYd HZ HZ3
          have hnn : ((n0 : Int) == (n0 : Int) - 1 + 1) = true := by simp
          go_wp2
          go_ret
          exact ⟨rfl, O8.out.alloc O8.out.size _⟩
end Go.Proofs.Qxb6623409a
