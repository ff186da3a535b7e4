/-
  Plain facts on the copies that the laws make ahead of all else.
-/
import Derived.Test.Qxb6623409aZZ
import Derived.Laws.CopyOwn
import Derived.Deep.OwnRows
namespace Go.Proofs.Qxb6623409a
open Go.RowKit

theorem info3 : (Try.prog.info? 3).map (fun i => (i.zero, i.size, i.bytes)) = some (some (.int .i64 0), 1, 8) := by kernel_rfl
theorem info21 : (Try.prog.info? 21).map (fun i => (i.zero, i.size, i.bytes)) = some (some (.int .i32 0), 1, 4) := by kernel_rfl
theorem size3 : (Try.prog.info? 3).map (·.size) = some 1 := by kernel_rfl
theorem size21 : (Try.prog.info? 21).map (·.size) = some 1 := by kernel_rfl

/-- What the walk is told of a slice of integers that came in. -/
def IsRow (k : IntKind) (w : World) (a : Option Addr) (len cap : Nat) (zs : List Int) : Prop :=
  (a = none ∧ len = 0 ∧ cap = 0 ∧ zs = []) ∨
  ∃ x, a = some x ∧ len ≤ cap ∧ cap ≤ maxLen ∧ zs.length = cap ∧ (∀ i, i < zs.length → w.cell? (x.add i) = some (.int k (zs.getD i 0))) ∧ ∀ n ∈ zs, (Lit.int k n).wf = true
theorem IsRow.le {k : IntKind} {w : World} {a : Option Addr} {len cap : Nat} {zs : List Int} (h : IsRow k w a len cap zs) : len ≤ maxLen := by
  rcases h with ⟨_, rfl, _, _⟩ | ⟨x, _, h1, h2, _⟩
  · exact Nat.zero_le _
  · exact Nat.le_trans h1 h2

/-- A block's cell. -/
theorem cell_block {w : World} {g : Nat} {arr : Array Value} {t : TypeId} {fr : Nat × Nat} (h : w.heap[g]? = some (.cells arr t fr)) (j : Nat) : w.cell? ⟨g, j, none⟩ = arr[j]? := by
  simp [World.cell?, h]
theorem frozen_block {w : World} {g : Nat} {arr : Array Value} {t : TypeId} (h : w.heap[g]? = some (.cells arr t (0, 0))) (j : Nat) : w.frozen? ⟨g, j, none⟩ = false := by
  simp [World.frozen?, h]

/-- The cells that go over. -/
def going (k : IntKind) (n : Nat) (zs : List Int) : List Value := (zs.take n).map (Value.int k)
theorem going_len (k : IntKind) (n : Nat) (zs : List Int) (h : n ≤ zs.length) : (going k n zs).length = n := by simp [going]; omega
theorem going_at (k : IntKind) (n : Nat) (zs : List Int) (j : Nat) (hj : j < n) (h : n ≤ zs.length) : (going k n zs)[j]? = some (.int k (zs.getD j 0)) := by
  simp [going, hj, List.getD]
  rw [List.getElem?_eq_getElem (by omega)]; simp
theorem going_one (k : IntKind) (n : Nat) (zs : List Int) : ∀ v ∈ going k n zs, v.oneCell' = true := by
  intro v hv
  obtain ⟨z, _, rfl⟩ := List.mem_map.1 (show v ∈ (zs.take n).map (Value.int k) from hv)
  rfl
theorem made_splice (k : IntKind) (n : Nat) (zs : List Int) (h : n ≤ zs.length) : splice (madeCells #[Value.int k 0] n).toList 0 (going k n zs) = going k n zs := by
  have e := going_len k n zs h
  have e2 : (madeCells #[Value.int k 0] n).toList.length = n := by simp [size_madeCells]
  simp only [splice, List.take_zero, List.nil_append, Nat.zero_add]
  rw [List.drop_of_length_le (by omega), List.append_nil]
theorem made_heap (w : World) (k : IntKind) (n : Nat) (t : TypeId) : (w.alloc (.cells (madeCells #[Value.int k 0] n) t)).heap[w.heap.size]? = some (.cells (madeCells #[Value.int k 0] n).toList.toArray t (0, 0)) := by
  rw [heap_alloc_new]
/-- What the copy reads. -/
theorem going_src {k : IntKind} {w W : World} {x : Addr} {n : Nat} {zs : List Int} (hz : n ≤ zs.length) (hc : ∀ i, i < zs.length → w.cell? (x.add i) = some (.int k (zs.getD i 0))) (hb : Below w.heap.size w W) :
    ∀ j v, (going k n zs)[j]? = some v → W.cell? (x.add j) = some v := by
  intro j v hv
  have hj : j < n := by
    have := (List.getElem?_eq_some_iff.1 hv).1
    rwa [going_len k n zs hz] at this
  rw [going_at k n zs j hj hz] at hv
  cases hv
  exact cell_later hb (hc j (by omega))
/-- 'zzc := make([]T, len(x)); copy(zzc, x)': a new block that holds x's elements; the old memory is as it was. -/
theorem copied_cells {k : IntKind} {W : World} {g n : Nat} {E : TypeId} {zs : List Int} (hz : n ≤ zs.length) (h : W.heap[g]? = some (.cells (going k n zs).toArray E (0, 0))) : ∀ j, j < n → W.cell? ⟨g, j, none⟩ = some (.int k (zs.getD j 0)) := by
  intro j hj
  rw [cell_block h j]
  simpa using going_at k n zs j hj hz
theorem copy_made (k : IntKind) (T E : TypeId) (hu : Try.prog.underlying T = some (.slice E)) (hs : (Try.prog.info? E).map (·.size) = some 1) (w W : World) (hW : Below w.heap.size w W) (x : Addr) (n c : Nat) (zs : List Int) (hz : n ≤ zs.length) (hc : ∀ i, i < zs.length → w.cell? (x.add i) = some (.int k (zs.getD i 0))) :
    ∃ W', (Builtin.copy_ #[T, T] 3 #[.slice (some ⟨W.heap.size, 0, none⟩) n n, .slice (some x) n c]).run Try.prog (W.alloc (.cells (madeCells #[Value.int k 0] n) E)) = .ok (.int .i64 n) W' ∧
      (W'.heap[W.heap.size]? = some (.cells (going k n zs).toArray E (0, 0)) ∧ Below W.heap.size W W') := by
  have hl := going_len k n zs hz
  have h := run_copy_row (P := Try.prog) (W.alloc (.cells (madeCells #[Value.int k 0] n) E)) T T 3 E W.heap.size 0 n n x n c (madeCells #[Value.int k 0] n).toList.toArray E (going k n zs) hu hs (made_heap W k n E)
    (by rw [hl]; simp) (going_src hz hc (hW.trans ((bel1 W _).mono hW.size))) (by rw [hl]; simp [size_madeCells]) (going_one _ _ _)
  have e := made_splice k n zs hz
  unfold splice at e
  refine ⟨_, h.trans (by rw [hl]; rfl), ?_, ?_⟩
  · rw [setRow_heap _ _ _ _ E _ (made_heap W k n E)]
    congr 2
    rw [List.append_assoc]
    rw [hl] at e
    exact congrArg List.toArray e
  · exact below_setRow (bel1 W _) (Nat.le_refl _) _
end Go.Proofs.Qxb6623409a
