/-
  Plain facts for the second law: a new list that is filled place by place; the six facts of the network with one node more.
-/
import Derived.Test.Qxb6623409aCopies
import Derived.Test.Qxb6623409aPlain
namespace Go.Proofs.Qxb6623409a
open Go.RowKit

/-- A row of m numbers in block B, whose first i are those of zs; it may be written. -/
structure Fill (k : IntKind) (w : World) (B m : Nat) (zs : List Int) (i : Nat) : Prop where
  there : ∀ j, j < m → ∃ x, w.cell? ⟨B, j, none⟩ = some (.int k x)
  vals : ∀ j, j < i → w.cell? ⟨B, j, none⟩ = some (.int k (zs.getD j 0))
  free : ∀ j, j < m → w.frozen? ⟨B, j, none⟩ = false

theorem made_at (k : IntKind) (m j : Nat) (hj : j < m) : (madeCells #[Value.int k 0] m)[j]? = some (.int k 0) := by
  have e : j % 1 = 0 := Nat.mod_one j
  simp [madeCells, hj, e]
theorem Fill.made (k : IntKind) (w : World) (m : Nat) (E : TypeId) (zs : List Int) : Fill k (w.alloc (.cells (madeCells #[Value.int k 0] m) E)) w.heap.size m zs 0 := by
  have hb := heap_alloc_new w (.cells (madeCells #[Value.int k 0] m) E)
  exact ⟨fun j hj => ⟨0, by rw [cell_block hb j]; exact made_at k m j hj⟩, fun j hj => by omega, fun j _ => frozen_block hb j⟩
theorem Fill.set {k : IntKind} {w : World} {B m : Nat} {zs : List Int} {i : Nat} (h : Fill k w B m zs i) (n : Nat) (hn : n < m) (hi : i ≤ n) (x : Int) : Fill k (w.setCell ⟨B, n, none⟩ (.int k x)) B m zs i := by
  refine ⟨fun j hj => ?_, fun j hj => ?_, fun j hj => ?_⟩
  · by_cases e : j = n
    · subst e
      obtain ⟨y, hy⟩ := h.there j hj
      exact ⟨x, World.cell?_setCell_same _ _ _ hy⟩
    · obtain ⟨y, hy⟩ := h.there j hj
      exact ⟨y, by rw [World.cell?_setCell_other _ _ _ _ (by intro e2; cases e2; exact e rfl)]; exact hy⟩
  · rw [World.cell?_setCell_other _ _ _ _ (by intro e2; cases e2; omega)]
    exact h.vals j hj
  · rw [World.frozen?_setCell]
    exact h.free j hj
theorem Fill.step {k : IntKind} {w : World} {B m : Nat} {zs : List Int} {i : Nat} (h : Fill k w B m zs i) (hi : i < m) (x : Int) (hx : zs.getD i 0 = x) : Fill k (w.setCell ⟨B, i, none⟩ (.int k x)) B m zs (i + 1) := by
  have hs := h.set i hi (Nat.le_refl _) x
  refine ⟨hs.there, fun j hj => ?_, hs.free⟩
  by_cases e : j = i
  · subst e
    obtain ⟨y, hy⟩ := h.there j hi
    rw [World.cell?_setCell_same _ _ _ hy, hx]
  · exact hs.vals j (by omega)
theorem Fill.later {k : IntKind} {w w' : World} {B m : Nat} {zs : List Int} {i B' : Nat} (h : Fill k w B m zs i) (hb : Below B' w w') (hB : B < B') : Fill k w' B m zs i :=
  ⟨fun j hj => by
    obtain ⟨x, hx⟩ := h.there j hj
    exact ⟨x, (hb.cell (p := ⟨B, j, none⟩) hB).trans hx⟩, fun j hj => (hb.cell (p := ⟨B, j, none⟩) hB).trans (h.vals j hj), fun j hj => (hb.frozen (p := ⟨B, j, none⟩) hB).trans (h.free j hj)⟩

/-! ### One node more -/
def more (z : List Int) (x : Int) : List Int := z ++ [x]
theorem more_len (z : List Int) (x : Int) : (more z x).length = z.length + 1 := by simp [more]
theorem more_at (z : List Int) (x : Int) (j : Nat) (h : j < z.length) : (more z x).getD j 0 = z.getD j 0 := by
  simp [more, List.getElem?_append_left h]
theorem more_last (z : List Int) (x : Int) (j : Nat) (h : j = z.length) : (more z x).getD j 0 = x := by
  subst h; simp [more]
theorem deg_more (z : List Int) (x : Int) (v : Nat) (h : v + 1 < z.length) : deg (more z x) v = deg z v := by
  unfold deg; rw [more_at z x _ h, more_at z x v (by omega)]
theorem mins_more (z : List Int) (x : Int) (h : 2 ≤ z.length) : ∀ k, k ≤ z.length - 1 → mins (more z x) k = mins z k
  | 0, _ => deg_more z x 0 (by omega)
  | k + 1, hk => by
    show min (mins (more z x) k) (deg (more z x) k) = min (mins z k) (deg z k)
    rw [mins_more z x h k (by omega), deg_more z x k (by omega)]
theorem maxs_more (z : List Int) (x : Int) (h : 2 ≤ z.length) : ∀ k, k ≤ z.length - 1 → maxs (more z x) k = maxs z k
  | 0, _ => deg_more z x 0 (by omega)
  | k + 1, hk => by
    show max (maxs (more z x) k) (deg (more z x) k) = max (maxs z k) (deg z k)
    rw [maxs_more z x h k (by omega), deg_more z x k (by omega)]
theorem deg_new (z : List Int) (n : Nat) (hn : z.length = n) (h : 2 ≤ n) : deg (more z (z.getD (n - 1) 0)) (n - 1) = 0 := by
  unfold deg
  rw [more_at z _ (n - 1) (by omega), more_last z _ (n - 1 + 1) (by omega), Int.sub_self]
  unfold wrap64
  omega
theorem mins_new (z : List Int) (n : Nat) (hn : z.length = n) (h : 2 ≤ n) : mins (more z (z.getD (n - 1) 0)) (n + 1 - 1) = min (mins z (n - 1)) 0 := by
  have e : n + 1 - 1 = (n - 1) + 1 := by omega
  rw [e]
  show min (mins (more z _) (n - 1)) (deg (more z _) (n - 1)) = _
  rw [mins_more z _ (by omega) (n - 1) (by omega), deg_new z n hn h]
theorem maxs_new (z : List Int) (n : Nat) (hn : z.length = n) (h : 2 ≤ n) : maxs (more z (z.getD (n - 1) 0)) (n + 1 - 1) = max (maxs z (n - 1)) 0 := by
  have e : n + 1 - 1 = (n - 1) + 1 := by omega
  rw [e]
  show max (maxs (more z _) (n - 1)) (deg (more z _) (n - 1)) = _
  rw [maxs_more z _ (by omega) (n - 1) (by omega), deg_new z n hn h]
theorem maxOf_new (z : List Int) (n : Nat) (hn : z.length = n) (h : 1 ≤ n) : Lib.maxOf ((more z 1).take (n + 1)) = max (Lib.maxOf (z.take n)) 1 := by
  rw [Lib.maxOf_step _ n h (by rw [more_len]; omega), more_last z 1 n hn.symm]
  congr 2
  simp [more, List.take_append_of_le_length (Nat.le_of_eq hn.symm)]
theorem facV_new (z0 z3 : List Int) (n0 n1 n3 : Nat) (h0 : z0.length = n0) (h0' : 2 ≤ n0) (h3 : z3.length = n3) (h3' : 1 ≤ n3) :
    facV (n0 + 1) n1 (n3 + 1) (more z0 (z0.getD (n0 - 1) 0)) (more z3 1) = .agg #[.int .i64 n0, .int .i64 (n1 / 2), .int .i64 (n3 + 1), .int .i64 (max (Lib.maxOf (z3.take n3)) 1), .int .i64 (min (mins z0 (n0 - 1)) 0), .int .i64 (max (maxs z0 (n0 - 1)) 0)] := by
  unfold facV
  rw [maxOf_new z3 n3 h3 h3', mins_new z0 n0 h0 h0', maxs_new z0 n0 h0 h0']
  have e : ((n0 + 1 : Nat) : Int) - 1 = n0 := by omega
  have e2 : ((n3 + 1 : Nat) : Int) = (n3 : Int) + 1 := by omega
  rw [e, e2]

/-! ### The two calls of ZZFacts, their numbers by name -/
theorem zz_first (b0 n0 c0 : Nat) (z0 : List Int) (a1 : Option Addr) (n1 c1 : Nat) (a2 : Option Addr) (n2 c2 b3 n3 c3 : Nat) (z3 : List Int) (w : World) (L mn mx : Int) (hL : Lib.maxOf (z3.take n3) = L) (hmn : mins z0 (n0 - 1) = mn) (hmx : maxs z0 (n0 - 1) = mx)
    (m0 : ∀ j, j < n0 → w.cell? ⟨b0, j, none⟩ = some (.int .i64 (z0.getD j 0))) (m3 : ∀ j, j < n3 → w.cell? ⟨b3, j, none⟩ = some (.int .i64 (z3.getD j 0))) (l3 : z3.length = n3)
    (h0 : 2 ≤ n0) (h0' : n0 ≤ 65536) (h1 : n1 ≤ 65536) (h3 : 1 ≤ n3) (h3' : n3 ≤ 65536) :
    Calls Try.prog 6 #[.slice (some ⟨b0, 0, none⟩) n0 c0, .slice a1 n1 c1, .slice a2 n2 c2, .slice (some ⟨b3, 0, none⟩) n3 c3] w fun e w' => e = .returned (.agg #[.int .i64 (n0 - 1), .int .i64 (n1 / 2), .int .i64 n3, .int .i64 L, .int .i64 mn, .int .i64 mx]) ∧ Below w.heap.size w w' := by
  subst hL hmn hmx
  exact zz_any b0 n0 c0 z0 a1 n1 c1 a2 n2 c2 b3 n3 c3 z3 w m0 (fun j hj => m3 j (by omega)) (by omega) h0 (by omega) (by omega) h3 (by omega)
theorem zz_second (B1 n0 : Nat) (z0 : List Int) (a1 : Option Addr) (n1 c1 : Nat) (a2 : Option Addr) (n2 c2 B3 n3 : Nat) (z3 : List Int) (w : World) (L mn mx : Int) (hL : Lib.maxOf (z3.take n3) = L) (hmn : mins z0 (n0 - 1) = mn) (hmx : maxs z0 (n0 - 1) = mx)
    (F1 : Fill .i64 w B1 (n0 + 1) (more z0 (z0.getD (n0 - 1) 0)) (n0 + 1)) (F3 : Fill .i64 w B3 (n3 + 1) (more z3 1) (n3 + 1)) (l0 : z0.length = n0) (l3 : z3.length = n3)
    (h0 : 2 ≤ n0) (h0' : n0 ≤ 65536) (h1 : n1 ≤ 65536) (h3 : 1 ≤ n3) (h3' : n3 ≤ 65536) :
    Calls Try.prog 6 #[.slice (some ⟨B1, 0, none⟩) (n0 + 1) (n0 + 1), .slice a1 n1 c1, .slice a2 n2 c2, .slice (some ⟨B3, 0, none⟩) (n3 + 1) (n3 + 1)] w fun e w' => e = .returned (.agg #[.int .i64 n0, .int .i64 (n1 / 2), .int .i64 (n3 + 1), .int .i64 (max L 1), .int .i64 (min mn 0), .int .i64 (max mx 0)]) ∧ Below w.heap.size w w' := by
  subst hL hmn hmx
  rw [← facV_new z0 z3 n0 n1 n3 l0 h0 l3 h3]
  exact zz_any B1 (n0 + 1) (n0 + 1) _ a1 n1 c1 a2 n2 c2 B3 (n3 + 1) (n3 + 1) _ w F1.vals (fun j hj => F3.vals j (by rw [more_len] at hj; omega)) (by rw [more_len]; omega) (by omega) (by omega) (by omega) (by omega) (by omega)
theorem size_set (w : World) (a : Addr) (v : Value) : (w.setCell a v).heap.size = w.heap.size := by simp
end Go.Proofs.Qxb6623409a
