/- 'copy(c, b)' RIGHT BEHIND 'c := make([]T, len(b))': one run equation. -/
import Derived.Laws.CopyRow
import Derived.Laws.IdiomCopy
import Derived.Laws.MakeOwn
import Derived.OwnWalk
namespace Go.Proofs.Ybulkagbm

theorem setRow_alloc_new (w : World) (c c' : Array Value) (t : TypeId) : (w.alloc (.cells c t)).setRow w.heap.size c' = w.alloc (.cells c' t) := by
  unfold World.setRow World.alloc
  congr 1
  apply Array.ext_getElem?
  intro k
  simp only [Array.getElem?_modify, Array.getElem?_push]
  by_cases hk : k = w.heap.size
  · subst hk; simp
  · simp [hk, Ne.symm hk]

/-- 'copy(c, b)' right behind 'c := make([]T, len(b))': the new row holds b's elements. -/
theorem run_copy_new {P : Program} (w : World) (k : IntKind) (z : Value) (dT ty elem : TypeId) (ao : Option Addr) (n cap : Nat) (zs : List Int) (hu : P.underlying dT = some (.slice elem)) (hs : (P.info? elem).map (·.size) = some 1)
    (hz : zs.length = n) (hc : ∀ i, i < n → ∃ x, ao = some x ∧ x.block < w.heap.size) (hcell : ∀ x, ao = some x → ∀ i, i < n → w.cell? (x.add i) = some (.int k (zs.getD i 0))) :
    (Builtin.copy_ #[dT, dT] ty #[.slice (some ⟨w.heap.size, 0, none⟩) n n, .slice ao n cap]).run P (w.alloc (.cells (madeCells #[z] n) elem)) =
      .ok (goInt n) (w.alloc (.cells (zs.map (Value.int k)).toArray elem)) := by
  by_cases h0 : n = 0
  · subst h0
    obtain rfl : zs = [] := List.eq_nil_of_length_eq_zero hz
    rw [run_copy_none (P := P) _ dT dT ty elem _ ao 0 0 0 cap hu hs (by simp)]
    simp [madeCells, Array.range_zero']
  · obtain ⟨x, rfl, hb⟩ := hc 0 (by omega)
    have hl : (zs.map (Value.int k)).length = n := by simpa using hz
    have hrow := run_copy_row P (w.alloc (.cells (madeCells #[z] n) elem)) dT dT ty elem w.heap.size 0 n n x n cap (madeCells #[z] n) elem (zs.map (Value.int k)) hu hs (heap_alloc_new w _) (by rw [hl]; simp) ?_ (by rw [hl, size_madeCells]; omega) (ints_oneCell k zs)
    · rw [hrow, setRow_alloc_new, hl]
      congr 2
      have : (madeCells #[z] n).toList.drop n = [] := List.drop_eq_nil_of_le (by have := size_madeCells #[z] n; simp only [Array.size_eq_length_toList] at this; omega)
      simp [this]
    · intro j v hv
      have hj : j < n := by have := (List.getElem?_eq_some_iff.1 hv).1; omega
      have h1 := hcell x rfl j hj
      have h2 : (w.alloc (.cells (madeCells #[z] n) elem)).cell? (x.add j) = w.cell? (x.add j) := World.cell?_alloc_lt w _ _ (by unfold Addr.add; split <;> exact hb)
      rw [h2, h1]
      rw [← hv]
      simp [List.getD, show j < zs.length by omega]
end Go.Proofs.Ybulkagbm
