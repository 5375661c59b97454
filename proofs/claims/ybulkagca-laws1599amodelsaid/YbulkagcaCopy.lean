/- 'copy(c, b)' RIGHT BEHIND 'c := make([]T, len(b))': one run equation; and zzs1599acopy (function 6). -/
import Derived.Test.YbulkagcaModel
import Derived.Laws.CopyRow
import Derived.Laws.IdiomCopy
import Derived.Laws.MakeOwn
import Derived.OwnWalk
import Derived.Deep.OwnRows
namespace Go.Proofs.Ybulkagca
open Go.RowKit

theorem setRow_alloc_new (w : World) (c c' : Array Value) (t : TypeId) : (w.alloc (.cells c t)).setRow w.heap.size c' = w.alloc (.cells c' t) := by
  unfold World.setRow World.alloc
  congr 1
  apply Array.ext_getElem?
  intro k
  simp only [Array.getElem?_modify, Array.getElem?_push]
  by_cases hk : k = w.heap.size
  · subst hk; simp
  · simp [hk, Ne.symm hk]

/-- 'copy(c, b)' right behind 'c := make([]T, len(b))': the new row holds b's elements. -/
theorem run_copy_new {P : Program} (w : World) (k : IntKind) (z : Value) (dT ty elem : TypeId) (ao : Option Addr) (n cap : Nat) (zs : List Int) (hu : P.underlying dT = some (.slice elem)) (hs : (P.info? elem).map (·.size) = some 1)
    (hz : zs.length = n) (hc : ∀ i, i < n → ∃ x, ao = some x ∧ x.block < w.heap.size) (hcell : ∀ x, ao = some x → ∀ i, i < n → w.cell? (x.add i) = some (.int k (zs.getD i 0))) :
    (Builtin.copy_ #[dT, dT] ty #[.slice (some ⟨w.heap.size, 0, none⟩) n n, .slice ao n cap]).run P (w.alloc (.cells (madeCells #[z] n) elem)) =
      .ok (goInt n) (w.alloc (.cells (zs.map (Value.int k)).toArray elem)) := by
  by_cases h0 : n = 0
  · subst h0
    obtain rfl : zs = [] := List.eq_nil_of_length_eq_zero hz
    rw [run_copy_none (P := P) _ dT dT ty elem _ ao 0 0 0 cap hu hs (by simp)]
    simp [madeCells, Array.range_zero']
  · obtain ⟨x, rfl, hb⟩ := hc 0 (by omega)
    have hl : (zs.map (Value.int k)).length = n := by simpa using hz
    have hrow := run_copy_row P (w.alloc (.cells (madeCells #[z] n) elem)) dT dT ty elem w.heap.size 0 n n x n cap (madeCells #[z] n) elem (zs.map (Value.int k)) hu hs (heap_alloc_new w _) (by rw [hl]; simp) ?_ (by rw [hl, size_madeCells]; omega) (ints_oneCell k zs)
    · rw [hrow, setRow_alloc_new, hl]
      congr 2
      have : (madeCells #[z] n).toList.drop n = [] := List.drop_eq_nil_of_le (by have := size_madeCells #[z] n; simp only [Array.size_eq_length_toList] at this; omega)
      simp [this]
    · intro j v hv
      have hj : j < n := by have := (List.getElem?_eq_some_iff.1 hv).1; omega
      have h1 := hcell x rfl j hj
      have h2 : (w.alloc (.cells (madeCells #[z] n) elem)).cell? (x.add j) = w.cell? (x.add j) := World.cell?_alloc_lt w _ _ (by unfold Addr.add; split <;> exact hb)
      rw [h2, h1]
      rw [← hv]
      simp [List.getD, show j < zs.length by omega]
theorem info5' : (Yba.prog.info? 5).map (·.size) = some 1 := by kernel_rfl

/-- A row that was just made owns its bytes. -/
theorem own_new (w : World) (l : List Int) (n : Nat) (hl : l.length = n) (hm : n ≤ 1000000) : Own (w.alloc (.cells (l.map (Value.int .u8)).toArray 5)) w.heap.size (.slice (some ⟨w.heap.size, 0, none⟩) n n) l := by
  subst hl
  refine ⟨by simp, .inr ⟨w.heap.size, l.length, _, rfl, Nat.le_refl _, heap_alloc_new w _, Nat.le_refl _, by unfold maxLen; omega, by simp, by simp [List.take_of_length_le]⟩⟩

set_option maxHeartbeats 400000 in
theorem copy_any (w : World) (a0 : Option Addr) (n cap : Nat) (y : List Int) (hy : y.length = n) (hn : n ≤ 5000) (hc : ∀ i, i < n → ∃ x, a0 = some x ∧ x.block < w.heap.size) (hcell : ∀ x, a0 = some x → ∀ i, i < n → w.cell? (x.add i) = some (.int .u8 (y.getD i 0))) :
    Calls Yba.prog 6 #[.slice a0 n cap] w fun e w' => ∃ v', e = .returned v' ∧ Own w' w.heap.size v' y ∧ Below w.heap.size w w' := by
  have hmk := run_make_row' (P := Yba.prog) 22 5 (.int .u8 0) 1 Yba.underlying22 info5 rfl .i64 .i64 n (by omega) (by omega)
  have hcp := run_copy_new (P := Yba.prog) w .u8 (.int .u8 0) 22 3 5 a0 n cap y Yba.underlying22 info5' hy hc hcell
  have HY : Hid (y.length = n) := hy
  clear hc hcell hy
  go_enter Yba.func6, Yba.ntmps6
  go_wp2
  go_ret
  exact ⟨_, rfl, own_new w y n HY.out (by omega), (Below.refl _ _).alloc (Nat.le_refl _) _⟩
end Go.Proofs.Ybulkagca
