/-
  The walk of (*neighborLists).Facts (8) and of ZZFacts (6).
-/
import Derived.Test.Qxb6623409aSmall
import Derived.Test.Qxb6623409aShelf
import Derived.Lib.MinMax
import Derived.Deep.RegionHeld3
import Derived.Deep.DrawnRows
import Derived.Deep.DeepCutAuto
import Derived.StillTactics
import Derived.Deep.DeepMust
import Derived.Laws.Pointers
namespace Go.Proofs.Qxb6623409a
open Go.RowKit
attribute [local go_sem ↓] Go.wp_at_zero Go.wp_at_succ
theorem alloc_drewN (w : World) (k : Nat) (o : Obj) : (w.drewN k).alloc o = (w.alloc o).drewN k := rfl
theorem setCell_drewN (w : World) (k : Nat) (a : Addr) (v : Value) : (w.drewN k).setCell a v = (w.setCell a v).drewN k := rfl
theorem shape_drewN (w : World) (k r : Nat) : (w.drewN k).shape? r = w.shape? r := rfl
attribute [local go_sem] alloc_drewN setCell_drewN shape_drewN

/-- What the call reads: the four lists behind the pointer, the numbers of the first and of the last. -/
structure Net (w : World) (G b0 n0 c0 : Nat) (z0 : List Int) (a1 : Option Addr) (n1 c1 b3 n3 c3 : Nat) (z3 : List Int) : Prop where
  g0 : w.cell? ⟨G, 0, none⟩ = some (.slice (some ⟨b0, 0, none⟩) n0 c0)
  g1 : w.cell? ⟨G, 1, none⟩ = some (.slice a1 n1 c1)
  g3 : w.cell? ⟨G, 3, none⟩ = some (.slice (some ⟨b3, 0, none⟩) n3 c3)
  m0 : ∀ j, j < n0 → w.cell? ⟨b0, j, none⟩ = some (.int .i64 (z0.getD j 0))
  m3 : ∀ j, j < z3.length → w.cell? ⟨b3, j, none⟩ = some (.int .i64 (z3.getD j 0))
  l3 : n3 ≤ z3.length

theorem Net.later {w w' : World} {G b0 n0 c0 : Nat} {z0 : List Int} {a1 : Option Addr} {n1 c1 b3 n3 c3 : Nat} {z3 : List Int} (h : Net w G b0 n0 c0 z0 a1 n1 c1 b3 n3 c3 z3) (hb : Below w.heap.size w w') : Net w' G b0 n0 c0 z0 a1 n1 c1 b3 n3 c3 z3 :=
  ⟨cell_later hb h.g0, cell_later hb h.g1, cell_later hb h.g3, fun j hj => cell_later hb (h.m0 j hj), fun j hj => cell_later hb (h.m3 j hj), h.l3⟩

/-! The worlds that the region comes to: the old memory is as it was. -/
theorem bel1 (w : World) (o : Obj) : Below w.heap.size w (w.alloc o) := (Below.refl _ _).alloc (Nat.le_refl _) _
theorem bel2 (w : World) (o o' : Obj) : Below w.heap.size w ((w.alloc o).alloc o') := (bel1 w o).alloc (bel1 w o).size _
theorem bel3 (w : World) (o : Obj) (k : Nat) : Below w.heap.size w ((w.alloc o).drewN k) := below_drewN (bel1 w o) k
theorem bel4 (w : World) (o o' : Obj) (k : Nat) : Below w.heap.size w (((w.alloc o).drewN k).alloc o') := (bel3 w o k).alloc (bel3 w o k).size _
theorem bel5 (w : World) (o o' : Obj) (k m : Nat) : Below w.heap.size w ((((w.alloc o).drewN k).alloc o').drewN m) := below_drewN (bel4 w o o' k) m
theorem bel6 (w : World) (o o' : Obj) (k : Nat) : Below w.heap.size w (((w.alloc o).alloc o').drewN k) := below_drewN (bel2 w o o') k

theorem keepS {w W : World} {a b : Addr} {x y : Value} (ha : w.cell? a = some x) (hb : w.cell? b = some y) (h : Below w.heap.size w W) : W.cell? a = some x ∧ W.cell? b = some y ∧ Below w.heap.size w W := ⟨cell_later h ha, cell_later h hb, h⟩

theorem max_any (b n c : Nat) (z : List Int) (w : World) (h0 : 0 < n) (hn : n ≤ 1048576) (hl : n ≤ z.length) (hc : ∀ j, j < z.length → w.cell? ⟨b, j, none⟩ = some (.int .i64 (z.getD j 0))) :
    Calls Try.prog 10 #[.slice (some ⟨b, 0, none⟩) n c] w fun e w' => e = .returned (.int .i64 (Lib.maxOf (z.take n))) ∧ w' = w :=
  Try.slices_Max_int b 0 n c z w h0 hl (by omega) (fun j hj => by rw [Nat.zero_add]; exact hc j hj)

/-- The six numbers, in a block of their own. -/
def facB (a b c d e f : Int) : Obj := .cells #[.int .i64 a, .int .i64 b, .int .i64 c, .int .i64 d, .int .i64 e, .int .i64 f] 26
theorem wrap_half (n : Nat) (h : n ≤ 1048576) : IntKind.i64.wrap ((n : Int) / 2) = (n : Int) / 2 := by
  rw [IntKind.wrap_i64]; omega

/-- The least and the greatest degree of the nodes below k, from the first node's on. -/
def mins (z : List Int) : Nat → Int
  | 0 => deg z 0
  | k + 1 => min (mins z k) (deg z k)
def maxs (z : List Int) : Nat → Int
  | 0 => deg z 0
  | k + 1 => max (maxs z k) (deg z k)
theorem val_int {k : IntKind} {a b : Int} (h : a = b) : Value.int k a = .int k b := by rw [h]
theorem deg_in {w : World} {G b0 n0 c0 : Nat} {z0 : List Int} {a1 : Option Addr} {n1 c1 b3 n3 c3 : Nat} {z3 : List Int} (N : Net w G b0 n0 c0 z0 a1 n1 c1 b3 n3 c3 z3) (h0 : n0 ≤ 1048576) (v : Nat) (hv : v + 1 < n0) (o o' : Obj) (m : Nat) :
    Calls Try.prog 11 #[.pointer (some ⟨G, 0, none⟩), .int .i64 v] (((w.alloc o).alloc o').drewN m) fun e w' => e = .returned (.int .i64 (deg z0 v)) ∧ ∃ k, w' = ((w.alloc o).alloc o').drewN k := by
  refine (degree_any G b0 n0 c0 v z0 _ (N.later (bel6 w o o' m)).g0 hv h0 (N.later (bel6 w o o' m)).m0).mono ?_
  rintro e w' ⟨he, k, rfl⟩
  exact ⟨he, m + k, World.drewN_drewN _ _ _⟩

set_option maxHeartbeats 12800000 in
theorem facts_any (G b0 n0 c0 : Nat) (z0 : List Int) (a1 : Option Addr) (n1 c1 b3 n3 c3 : Nat) (z3 : List Int) (w : World) (N : Net w G b0 n0 c0 z0 a1 n1 c1 b3 n3 c3 z3)
    (h0 : 2 ≤ n0) (h0' : n0 ≤ 1048576) (h1 : n1 ≤ 1048576) (h3 : 1 ≤ n3) (h3' : n3 ≤ 1048576) :
    Calls Try.prog 8 #[.pointer (some ⟨G, 0, none⟩)] w fun e w' => e = .returned (.agg #[.int .i64 (n0 - 1), .int .i64 (n1 / 2), .int .i64 n3, .int .i64 (Lib.maxOf (z3.take n3)), .int .i64 (mins z0 (n0 - 1)), .int .i64 (maxs z0 (n0 - 1))]) ∧ Below w.heap.size w w' := by
  have hG : G < w.heap.size := World.block_lt_of_cell? w ⟨G, 0, none⟩ N.g0
  have eG : w.heap.size ≠ G := by omega
  have eG1 : w.heap.size + 1 ≠ G := by omega
  have g1 := N.g1
  have g3 := N.g3
  have hwr := wrap_half n1 h1
  have HN : Hid (Net w G b0 n0 c0 z0 a1 n1 c1 b3 n3 c3 z3) := N
  clear N
  go_enter Try.func8, Try.ntmps8
  go_wp2
  go_cut [3] (fun s3 wc => s3 = .pointer (some ⟨w.heap.size + 1, 0, none⟩) ∧ ∃ k, wc = ((w.alloc (facB 0 0 0 0 0 0)).alloc (facB (n0 - 1) (n1 / 2) n3 (Lib.maxOf (z3.take n3)) (deg z0 0) (deg z0 0))).drewN k)
  case first =>
      go_region_held3 (fun w' => w'.cell? ⟨G, 1, none⟩ = some (.slice a1 n1 c1) ∧ w'.cell? ⟨G, 3, none⟩ = some (.slice (some ⟨b3, 0, none⟩) n3 c3) ∧ Below w.heap.size w w') 
       (first | exact keepS g1 g3 (bel1 _ _).drew | exact keepS g1 g3 (bel3 _ _ _) | exact keepS g1 g3 (bel2 _ _ _).drew | exact keepS g1 g3 (bel6 _ _ _ _))
        (first
          | (go_at_call 9; go_split_ands; refine (nodes_any G n0 c0 (some ⟨b0, 0, none⟩) _ ?_ ?_ ?_).mono ?_; (exact (HN.out.later (by assumption)).g0); omega; omega; rintro e w' ⟨rfl, rfl⟩)
          | (go_at_call 10; go_split_ands; refine (max_any b3 n3 c3 z3 _ ?_ ?_ ?_ ?_).mono ?_; omega; omega; (exact HN.out.l3); (exact (HN.out.later (by assumption)).m3); rintro e w' ⟨rfl, rfl⟩)
          | (go_at_call 11; go_split_ands; refine (degree_any G b0 n0 c0 0 z0 _ ?_ ?_ ?_ ?_).mono ?_; (exact (HN.out.later (by assumption)).g0); omega; omega; (exact (HN.out.later (by assumption)).m0); rintro e w' ⟨rfl, k, rfl⟩))
      all_goals
        go_wp2_with fail
        go_meet
        exact ⟨rfl, _, rfl⟩
  case rest =>
    obtain ⟨rfl, k, rfl⟩ := hcut
    unfold facB
    go_wp2
    go_loopw [30] (fun i wr => ∃ v k : Nat, v ≤ n0 - 1 ∧ i = .int .i64 v ∧ wr = ((w.alloc (facB 0 0 0 0 0 0)).alloc (facB (n0 - 1) (n1 / 2) n3 (Lib.maxOf (z3.take n3)) (mins z0 v) (maxs z0 v))).drewN k) (fun i _ => n0 - 1 - (intOf i).toNat)
    case atStart => exact ⟨0, k, Nat.zero_le _, rfl, rfl⟩
    case round =>
      obtain ⟨v, j, hv, rfl, rfl⟩ := hrel
      unfold facB
      by_cases hlt : v < n0 - 1
      · have hlt' : (v : Int) < (n0 : Int) - 1 := by omega
        have hdeg := deg_in HN.out h0' v (by omega)
        have HD : Hid (∀ (o o' : Obj) (m : Nat), Calls Try.prog 11 #[.pointer (some ⟨G, 0, none⟩), .int .i64 v] (((w.alloc o).alloc o').drewN m) fun e w' => e = .returned (.int .i64 (deg z0 v)) ∧ ∃ k, w' = ((w.alloc o).alloc o').drewN k) := hdeg
        clear hdeg
        go_wp2
        go_region_with (go_at_call 11; refine (HD.out _ _ _).mono ?_; rintro e w' ⟨rfl, k5, rfl⟩)
        all_goals
          go_wp2
          go_region_with (go_at_call 11; refine (HD.out _ _ _).mono ?_; rintro e w' ⟨rfl, k6, rfl⟩)
          all_goals
            go_wp2
            go_roundw
            case rel => exact ⟨v + 1, k6, by omega, by go_num, rfl⟩
            case measure => simp [intOf]; omega
      · have hge : (n0 : Int) - 1 ≤ (v : Int) := by omega
        have HV : Hid (v = n0 - 1) := show v = n0 - 1 by omega
        go_wp2
        refine bodyPost_ret (v := .agg #[.int .i64 (n0 - 1), .int .i64 (n1 / 2), .int .i64 n3, .int .i64 (Lib.maxOf (z3.take n3)), .int .i64 (mins z0 v), .int .i64 (maxs z0 v)]) (by simp [results, Try.results8, go_sem]) rfl ⟨?_, ?_⟩
        · rw [HV.out]
        · exact bel6 _ _ _ _
end Go.Proofs.Qxb6623409a
