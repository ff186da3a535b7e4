/-
  The walk of FnFactsDescribesTheLists (3).
-/
import Derived.Test.Qxb6623409aCopies
import Derived.Test.Qxb6623409aPlain
namespace Go.Proofs.Qxb6623409a
open Go.RowKit

theorem way_bad {z : List Int} {v : Nat} {mn mx : Int} (h1 : mn ≤ deg z v) (h2 : deg z v ≤ mx) (h : wrap64 (z[v + 1]?.getD 0 - z[v]?.getD 0) < mn ∨ mx < wrap64 (z[v + 1]?.getD 0 - z[v]?.getD 0)) : False := by
  have e : wrap64 (z[v + 1]?.getD 0 - z[v]?.getD 0) = deg z v := rfl
  rw [e] at h
  rcases h with h | h <;> omega
theorem deg_eq {z : List Int} {v : Nat} {x : Int} {b : Bool} (h : (wrap64 (z[v + 1]?.getD 0 - z[v]?.getD 0) == x) = b) : (deg z v == x) = b := h
theorem hit_yes {f : Nat → Int} {x : Int} {i : Nat} (h : (f i == x) = true) : Value.bool true = .bool (hit f x (i + 1)) := by
  show _ = Value.bool (hit f x i || (f i == x)); rw [h]; simp
theorem hit_no {f : Nat → Int} {x : Int} {i : Nat} (h : (f i == x) = false) : Value.bool (hit f x i) = .bool (hit f x (i + 1)) := by
  show _ = Value.bool (hit f x i || (f i == x)); rw [h]; simp
theorem dd (w : World) (a b : Nat) : ∃ k, (w.drewN a).drewN b = w.drewN k := ⟨_, World.drewN_drewN _ _ _⟩
theorem ddd (w : World) (a b c : Nat) : ∃ k, ((w.drewN a).drewN b).drewN c = w.drewN k := ⟨_, by rw [World.drewN_drewN, World.drewN_drewN]⟩

set_option maxRecDepth 100000 in
set_option maxHeartbeats 4000000 in
theorem law1_main (x0 : Addr) (n0 c0 : Nat) (z0 : List Int) (a1 : Option Addr) (n1 c1 : Nat) (z1 : List Int) (a2 : Option Addr) (n2 c2 : Nat) (z2 : List Int) (x3 : Addr) (n3 c3 : Nat) (z3 : List Int) (w : World)
    (r0 : ∀ i, i < z0.length → w.cell? (x0.add i) = some (.int .i64 (z0.getD i 0))) (l0 : n0 ≤ z0.length) (w1 : IsRow .i32 w a1 n1 c1 z1) (w2 : IsRow .i32 w a2 n2 c2 z2) (r3 : ∀ i, i < z3.length → w.cell? (x3.add i) = some (.int .i64 (z3.getD i 0))) (l3 : n3 ≤ z3.length) (l3' : z3.length ≤ n3)
    (hn0 : n0 ≤ 65536) (hn1 : n1 ≤ 65536) (hn2 : n2 ≤ 65536) (hn3 : n3 ≤ 65536) (hb : 8 * n0 + 4 * n1 + 4 * n2 + 8 * n3 ≤ 1048576) (h2 : 2 ≤ n0) (h1 : 1 ≤ n3) :
    Calls Try.prog 3 #[.slice (some x0) n0 c0, .slice a1 n1 c1, .slice a2 n2 c2, .slice (some x3) n3 c3] w fun e w' => e = .returned (.bool true) ∧ Below w.heap.size w w' := by
  have HR0 : Hid (∀ i, i < z0.length → w.cell? (x0.add i) = some (.int .i64 (z0.getD i 0))) := r0
  have HR3 : Hid (∀ i, i < z3.length → w.cell? (x3.add i) = some (.int .i64 (z3.getD i 0))) := r3
  have HW1 : Hid (IsRow .i32 w a1 n1 c1 z1) := w1
  have HW2 : Hid (IsRow .i32 w a2 n2 c2 z2) := w2
  clear r0 r3 w1 w2
  have hdec : decide (n0 + n1 + n2 + n3 ≤ 1048576) = true := by simp; omega
  have q22 := fun (w : World) (a : Option Addr) (n c n' c' : Nat) => run_neq_slice_nil_any (P := Try.prog) w 22 3 a n c n' c' Try.underlying22
  have q23 := fun (w : World) (a : Option Addr) (n c n' c' : Nat) => run_neq_slice_nil_any (P := Try.prog) w 23 21 a n c n' c' Try.underlying23
  have mk0 := fun (w : World) => run_make_row' (P := Try.prog) 22 3 (.int .i64 0) 8 Try.underlying22 info3 rfl .i64 .i64 n0 (by omega) (by omega) w
  go_enter Try.func3, Try.ntmps3
  go_upto_if 71 with (go_at_call 5; refine (bytes5 _ _ _ _ _ _ _ _ _ _ _ _ _ (by unfold maxLen; omega) (by unfold maxLen; omega) (by unfold maxLen; omega) (by unfold maxLen; omega)).mono ?_; rintro e w' ⟨rfl, hw'⟩; obtain rfl := hw'.symm)
  go_cut [0] (fun s0 wc => ∃ g0, s0 = .slice (some ⟨g0, 0, none⟩) n0 n0 ∧ Hid ((∀ j, j < n0 → wc.cell? ⟨g0, j, none⟩ = some (.int .i64 (z0.getD j 0))) ∧ Below w.heap.size w wc))
  case first =>
    as_aux_lemma =>
      obtain ⟨W5, cp, hg5, hb5⟩ := copy_made .i64 22 3 Try.underlying22 size3 w w (Below.refl _ _) x0 n0 c0 z0 l0 HR0.out
      have HC : Hid ((∀ j, j < n0 → W5.cell? ⟨w.heap.size, j, none⟩ = some (.int .i64 (z0.getD j 0))) ∧ Below w.heap.size w W5) := ⟨copied_cells l0 hg5, hb5⟩
      clear hg5 hb5
      go_wp2
      go_meet
      exact ⟨_, rfl, HC⟩
  case rest =>
    obtain ⟨wa, rfl⟩ : ∃ wa : World, wa = wc := ⟨_, rfl⟩
    obtain ⟨g0, rfl, H0⟩ := hcut
    clear mk0
    have mk1 := fun (w : World) => run_make_row' (P := Try.prog) 23 21 (.int .i32 0) 4 Try.underlying23 info21 rfl .i64 .i64 n1 (by omega) (by omega) w
    go_upto_if 80 with fail
    go_cut [1] (fun s1 wd => ∃ a c, s1 = .slice a n1 c ∧ Hid (Below wa.heap.size wa wd))
    case first =>
      as_aux_lemma =>
        rcases HW1.out with ⟨rfl, rfl, rfl, rfl⟩ | ⟨x1, rfl, hl1, _, hz1, hc1, _⟩
        · go_wp2
          go_meet
          exact ⟨_, _, rfl, Below.refl _ _⟩
        · obtain ⟨W5, cp, _, hb5⟩ := copy_made .i32 23 21 Try.underlying23 size21 w wa H0.out.2 x1 n1 c1 z1 (by omega) hc1
          have HC : Hid (Below wa.heap.size wa W5) := hb5
          clear hb5 hc1
          go_wp2
          go_meet
          exact ⟨_, _, rfl, HC⟩
    case rest =>
      obtain ⟨wb, rfl⟩ : ∃ wb : World, wb = wc := ⟨_, rfl⟩
      obtain ⟨d1, e1, rfl, H1⟩ := hcut
      have HB1 : Hid (Below w.heap.size w wb) := H0.out.2.trans (H1.out.mono H0.out.2.size)
      clear mk1
      have mk2 := fun (w : World) => run_make_row' (P := Try.prog) 23 21 (.int .i32 0) 4 Try.underlying23 info21 rfl .i64 .i64 n2 (by omega) (by omega) w
      go_upto_if 89 with fail
      go_cut [2] (fun s2 wd => ∃ a c, s2 = .slice a n2 c ∧ Hid (Below wb.heap.size wb wd))
      case first =>
        as_aux_lemma =>
          rcases HW2.out with ⟨rfl, rfl, rfl, rfl⟩ | ⟨x1, rfl, hl1, _, hz1, hc1, _⟩
          · go_wp2
            go_meet
            exact ⟨_, _, rfl, Below.refl _ _⟩
          · obtain ⟨W5, cp, _, hb5⟩ := copy_made .i32 23 21 Try.underlying23 size21 w wb HB1.out x1 n2 c2 z2 (by omega) hc1
            have HC : Hid (Below wb.heap.size wb W5) := hb5
            clear hb5 hc1
            go_wp2
            go_meet
            exact ⟨_, _, rfl, HC⟩
      case rest =>
        obtain ⟨wd, rfl⟩ : ∃ wd : World, wd = wc := ⟨_, rfl⟩
        obtain ⟨d2, e2, rfl, H2⟩ := hcut
        have HB2 : Hid (Below w.heap.size w wd) := HB1.out.trans (H2.out.mono HB1.out.size)
        clear mk2
        have mk3 := fun (w : World) => run_make_row' (P := Try.prog) 22 3 (.int .i64 0) 8 Try.underlying22 info3 rfl .i64 .i64 n3 (by omega) (by omega) w
        go_upto_if 98 with fail
        go_cut [3] (fun s3 we => ∃ g3, s3 = .slice (some ⟨g3, 0, none⟩) n3 n3 ∧ Hid ((∀ j, j < n3 → we.cell? ⟨g3, j, none⟩ = some (.int .i64 (z3.getD j 0))) ∧ Below wd.heap.size wd we))
        case first =>
          as_aux_lemma =>
            obtain ⟨W5, cp, hg5, hb5⟩ := copy_made .i64 22 3 Try.underlying22 size3 w wd HB2.out x3 n3 c3 z3 l3 HR3.out
            have HC : Hid ((∀ j, j < n3 → W5.cell? ⟨wd.heap.size, j, none⟩ = some (.int .i64 (z3.getD j 0))) ∧ Below wd.heap.size wd W5) := ⟨copied_cells l3 hg5, hb5⟩
            clear hg5 hb5
            go_wp2
            go_meet
            exact ⟨_, rfl, HC⟩
        case rest =>
          obtain ⟨we, rfl⟩ : ∃ we : World, we = wc := ⟨_, rfl⟩
          obtain ⟨g3, rfl, H3⟩ := hcut
          have HB3 : Hid (Below w.heap.size w we) := HB2.out.trans (H3.out.2.mono HB2.out.size)
          have M0 : Hid (∀ j, j < n0 → we.cell? ⟨g0, j, none⟩ = some (.int .i64 (z0.getD j 0))) := fun j hj => cell_later H3.out.2 (cell_later H2.out (cell_later H1.out (H0.out.1 j hj)))
          have M3 : Hid (∀ j, j < z3.length → we.cell? ⟨g3, j, none⟩ = some (.int .i64 (z3.getD j 0))) := fun j hj => H3.out.1 j (by omega)
          clear mk3 q22 q23 hdec H0 H1 H2 H3 HB1 HB2 HR0 HR3 HW1 HW2
          go_wp2_with fail
          refine (zz_any g0 n0 n0 z0 d1 n1 e1 d2 n2 e2 g3 n3 n3 z3 _ M0.out M3.out l3 h2 (by omega) (by omega) h1 (by omega)).mono ?_
          rintro e w6 ⟨rfl, hb6⟩
          have HB6 : Hid (Below w.heap.size w w6) := HB3.out.trans (hb6.mono HB3.out.size)
          have N0 : Hid (∀ j, j < n0 → w6.cell? ⟨g0, j, none⟩ = some (.int .i64 (z0.getD j 0))) := fun j hj => cell_later hb6 (M0.out j hj)
          have N3 : Hid (∀ j, j < n3 → w6.cell? ⟨g3, j, none⟩ = some (.int .i64 (z3.getD j 0))) := fun j hj => cell_later hb6 (M3.out j (by omega))
          have HL : Hid (∀ i, i < n3 → z3.getD i 0 ≤ Lib.maxOf (z3.take n3)) := maxOf_ge z3 n3 l3
          have HL1 : Hid (hit (zf z3) (Lib.maxOf (z3.take n3)) n3 = true) := hit_max z3 n3 l3 h1
          have HMn : Hid ((∀ v, v < n0 - 1 → mins z0 (n0 - 1) ≤ deg z0 v) ∧ hit (deg z0) (mins z0 (n0 - 1)) (n0 - 1) = true) := ⟨mins_le z0 _, hit_mins z0 _ (by omega)⟩
          have HMx : Hid ((∀ v, v < n0 - 1 → deg z0 v ≤ maxs z0 (n0 - 1)) ∧ hit (deg z0) (maxs z0 (n0 - 1)) (n0 - 1) = true) := ⟨maxs_ge z0 _, hit_maxs z0 _ (by omega)⟩
          clear hb6 M0 M3 HB3
          unfold facV
          generalize Lib.maxOf (z3.take n3) = L at *
          generalize mins z0 (n0 - 1) = mn at *
          generalize maxs z0 (n0 - 1) = mx at *
          have hg0 : g0 < w6.heap.size := World.block_lt_of_cell? w6 ⟨g0, 0, none⟩ (N0.out 0 (by omega))
          have hg3 : g3 < w6.heap.size := World.block_lt_of_cell? w6 ⟨g3, 0, none⟩ (N3.out 0 (by omega))
          go_upto_if 139 with fail
          go_cut [15] (fun s wx => s = .int .i64 n1 ∧ wx = w6.alloc (facB (n0 - 1) (n1 / 2) n3 L mn mx))
          case first =>
            as_aux_lemma =>
              go_wp2
              go_meet
              exact ⟨rfl, rfl⟩
          case rest =>
          obtain ⟨rfl, rfl⟩ := hcut
          go_wp2
          go_loopw [16, 17] (fun s t wr => ∃ i k : Nat, i ≤ n3 ∧ t = .int .i64 i ∧ s = .bool (hit (zf z3) L i) ∧ wr = (w6.alloc (facB (n0 - 1) (n1 / 2) n3 L mn mx)).drewN k) (fun _ t _ => n3 - (intOf t).toNat)
          case atStart => exact ⟨0, 0, Nat.zero_le _, rfl, rfl, rfl⟩
          case round =>
            obtain ⟨i, k, hi, rfl, rfl, rfl⟩ := hrel
            unfold facB
            by_cases hlt : i < n3
            · have hlt' : (i : Int) < (n3 : Int) := by omega
              have cx := N3.out i hlt
              have hle := HL.out i hlt
              have hgt : ¬ L < z3.getD i 0 := by omega
              generalize hzi : z3.getD i 0 = zi at *
              have HZ : Hid (z3.getD i 0 = zi) := hzi
              clear hzi
              cases heq : (zi == L)
              · have HQ : Hid ((zf z3 i == L) = false) := show _ = _ by unfold zf; rw [HZ.out]; exact heq
                go_wp2
                go_quiet (fail)
                go_wp2
                go_quiet (fail)
                go_wp2
                go_roundw
                case rel => exact ⟨i + 1, _, by omega, by go_num, hit_no HQ.out, by first | rfl | (simp only [World.drewN_drewN]; rfl) | simp only [World.drewN_drewN]⟩
                case measure => simp [intOf]; omega
              · have HQ : Hid ((zf z3 i == L) = true) := show _ = _ by unfold zf; rw [HZ.out]; exact heq
                go_wp2
                go_quiet (fail)
                go_wp2
                go_quiet (fail)
                go_wp2
                go_roundw
                case rel => exact ⟨i + 1, _, by omega, by go_num, hit_yes HQ.out, by first | rfl | (simp only [World.drewN_drewN]; rfl) | simp only [World.drewN_drewN]⟩
                case measure => simp [intOf]; omega
            · have hge : (n3 : Int) ≤ (i : Int) := by omega
              have hat : hit (zf z3) L i = true := by
                obtain rfl : i = n3 := by omega
                exact HL1.out
              clear HL HL1 N3
              go_upto_if 161 with fail
              go_cut [16] (fun s wx => s = .bool true ∧ wx = (w6.alloc (facB (n0 - 1) (n1 / 2) n3 L mn mx)).drewN k)
              case first =>
                as_aux_lemma =>
                  go_wp2
                  go_meet
                  exact ⟨by rw [hat], rfl⟩
              case rest =>
              obtain ⟨rfl, rfl⟩ := hcut
              go_wp2
              go_loopw [18, 19, 20] (fun s t u wr => ∃ v k : Nat, v ≤ n0 - 1 ∧ u = .int .i64 v ∧ s = .bool (hit (deg z0) mn v) ∧ t = .bool (hit (deg z0) mx v) ∧ wr = (w6.alloc (facB (n0 - 1) (n1 / 2) n3 L mn mx)).drewN k) (fun _ _ u _ => n0 - 1 - (intOf u).toNat)
              case atStart => exact ⟨0, _, Nat.zero_le _, rfl, rfl, rfl, rfl⟩
              case round =>
                obtain ⟨v, k, hv, rfl, rfl, rfl, rfl⟩ := hrel
                unfold facB
                by_cases hlt : v < n0 - 1
                · have hlt' : (v : Int) < (n0 : Int) - 1 := by omega
                  have hx1 : (v : Int) + 1 < (n0 : Int) := by omega
                  have hx0 : (v : Int) < (n0 : Int) := by omega
                  have cx := N0.out v (by omega)
                  have cy := N0.out (v + 1) (by omega)
                  have HD1 : Hid (mn ≤ deg z0 v) := HMn.out.1 v hlt
                  have HD2 : Hid (deg z0 v ≤ mx) := HMx.out.1 v hlt
                  go_wp2
                  go_quiet (fail)
                  go_wp2
                  · exact (way_bad HD1.out HD2.out (by assumption)).elim
                  all_goals
                    go_roundw
                    case rel => exact ⟨v + 1, _, by omega, by go_num, by first | exact hit_yes (deg_eq (by assumption)) | exact hit_no (deg_eq (by assumption)), by first | exact hit_yes (deg_eq (by assumption)) | exact hit_no (deg_eq (by assumption)), rfl⟩
                    case measure => simp [intOf]; omega
                · have hge : (n0 : Int) - 1 ≤ (v : Int) := by omega
                  have hm1 : hit (deg z0) mn v = true := by
                    obtain rfl : v = n0 - 1 := by omega
                    exact HMn.out.2
                  have hm2 : hit (deg z0) mx v = true := by
                    obtain rfl : v = n0 - 1 := by omega
                    exact HMx.out.2
                  go_wp2
                  go_ret
                  exact ⟨rfl, below_drewN (HB6.out.alloc HB6.out.size _) _⟩
end Go.Proofs.Qxb6623409a
