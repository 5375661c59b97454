/- THE STATE AS THE LAW FIRST LAYS IT. -/
import Derived.Test.YbulkagbmTrimCfg
namespace Go.Proofs.Ybulkagbm
open Go.RowKit
namespace Trim

def nodes0 : List Value := [.pointer none, .int .i32 0, .int .i32 0, .int .i32 (-1), .int .u32 0, .pointer none, .int .i32 1, .int .i32 1, .int .i32 (-1), .int .u32 0, .pointer none, .int .i32 2, .int .i32 2, .int .i32 (-1), .int .u32 0,
  .pointer none, .int .i32 3, .int .i32 3, .int .i32 (-1), .int .u32 0, .pointer none, .int .i32 4, .int .i32 4, .int .i32 (-1), .int .u32 0]

theorem start (c : Cfg) (w : World) (hB : c.B = w.heap.size) (h3 : c.l3 ≤ 1024) (h4 : c.l4 ≤ 1024) (eW eM : Nat → Nat) (oc nc ns lc : Array Value) (hoc : oc = oC (LL c eW eM) (kn 0 0) 0 0)
    (hnc : nc = #[.slice (some ⟨c.B + 2, 0, none⟩) 5 5, .slice (some ⟨c.B + 3, 0, none⟩) 5 5, .int .i32 0]) (hns : ns = nodes0.toArray) (hlc : lc = lC (LL c eW eM)) (w7 : World)
    (hw : w7 = ((((((w.alloc (.cells oc 42)).alloc (.cells nc 46)).alloc (.cells ns 49)).alloc (.cells lc 50)).alloc (.map #[] 0)).alloc (.cells (madeCells #[.pointer none] c.l3) 39)).alloc (.cells (madeCells #[.int .i64 0] c.l3) 2)) :
    Built c w w7 0 0 eW eM (c.B + 2) ∧ w7.rowIs (c.B + 5) 39 c.l3 (entRow eW 0) ∧ w7.rowIs (c.B + 6) 2 c.l3 (lenRow (lenW c) 0) := by
  have s0 : c.B = w.heap.size := hB
  have b0 : w7.heap[c.B]? = some (.cells oc 42 (0, 0)) := by
    rw [hw, heap_old _ _ _ (by simp; omega), heap_old _ _ _ (by simp; omega), heap_old _ _ _ (by simp; omega), heap_old _ _ _ (by simp; omega), heap_old _ _ _ (by simp; omega), heap_old _ _ _ (by simp; omega)]
    exact heap_new _ _ _ s0
  have b1 : w7.heap[c.B + 1]? = some (.cells nc 46 (0, 0)) := by
    rw [hw, heap_old _ _ _ (by simp; omega), heap_old _ _ _ (by simp; omega), heap_old _ _ _ (by simp; omega), heap_old _ _ _ (by simp; omega), heap_old _ _ _ (by simp; omega)]
    exact heap_new _ _ _ (by simp; omega)
  have b2 : w7.heap[c.B + 2]? = some (.cells ns 49 (0, 0)) := by
    rw [hw, heap_old _ _ _ (by simp; omega), heap_old _ _ _ (by simp; omega), heap_old _ _ _ (by simp; omega), heap_old _ _ _ (by simp; omega)]
    exact heap_new _ _ _ (by simp; omega)
  have b3 : w7.heap[c.B + 3]? = some (.cells lc 50 (0, 0)) := by
    rw [hw, heap_old _ _ _ (by simp; omega), heap_old _ _ _ (by simp; omega), heap_old _ _ _ (by simp; omega)]
    exact heap_new _ _ _ (by simp; omega)
  have b4 : w7.heap[c.B + 4]? = some (.map #[] 0) := by
    rw [hw, heap_old _ _ _ (by simp; omega), heap_old _ _ _ (by simp; omega)]
    exact heap_new _ _ _ (by simp; omega)
  have b5 : w7.heap[c.B + 5]? = some (.cells (madeCells #[.pointer none] c.l3) 39 (0, 0)) := by
    rw [hw, heap_old _ _ _ (by simp; omega)]
    exact heap_new _ _ _ (by simp; omega)
  have b6 : w7.heap[c.B + 6]? = some (.cells (madeCells #[.int .i64 0] c.l3) 2 (0, 0)) := by
    rw [hw]
    exact heap_new _ _ _ (by simp; omega)
  subst hoc hnc hns hlc
  refine ⟨⟨⟨b0, b3, ⟨5, nodes0, ⟨0, b1⟩, ⟨rfl, by omega, by unfold maxLen; omega, nodes0.toArray, b2, rfl, rfl⟩, ?_⟩, ⟨#[], 0, b4, rfl⟩, ?_, ?_⟩, ?_, ?_, ?_, ?_, by omega, ?_, ?_, ?_, by omega, h3, by omega, h4⟩, ?_, ?_⟩
  · intro r hr
    rcases hr with rfl | rfl
    · exact ⟨rfl, ⟨_, rfl⟩, fun i hi => absurd hi (Nat.not_lt_zero _), fun i hi => absurd hi (Nat.not_lt_zero _), fun i hi => absurd hi (Nat.not_lt_zero _), fun i hi => absurd hi (Nat.not_lt_zero _), fun i hi => absurd hi (Nat.not_lt_zero _)⟩
    · exact ⟨rfl, ⟨_, rfl⟩, fun i hi => absurd hi (Nat.not_lt_zero _), fun i hi => absurd hi (Nat.not_lt_zero _), fun i hi => absurd hi (Nat.not_lt_zero _), fun i hi => absurd hi (Nat.not_lt_zero _), fun i hi => absurd hi (Nat.not_lt_zero _)⟩
  · intro r hr i hi
    rcases hr with rfl | rfl <;> exact absurd hi (Nat.not_lt_zero _)
  · intro r _
    exact Nat.le_refl _
  · intro x y hx; exact absurd hx (Nat.not_lt_zero _)
  · intro x y hx; exact absurd hx (Nat.not_lt_zero _)
  · intro x y hx; exact absurd hx (Nat.not_lt_zero _)
  · rw [hw, s0]
    exact (((((((Below.refl _ _).alloc (Nat.le_refl _) _).alloc (by simp) _).alloc (by simp; omega) _).alloc (by simp; omega) _).alloc (by simp; omega) _).alloc (by simp; omega) _).alloc (by simp; omega) _
  · intro x hx; exact absurd hx (Nat.not_lt_zero _)
  · intro x hx; exact absurd hx (Nat.not_lt_zero _)
  · rw [hw]; simp; omega
  · exact ⟨_, b5, size_madeCells _ _, fun i hi => by simp [madeCells, hi, Nat.mod_one, entRow]⟩
  · exact ⟨_, b6, size_madeCells _ _, fun i hi => by simp [madeCells, hi, Nat.mod_one, lenRow]⟩

/-- The end of a round of either building loop. -/
theorem endStore {c : Cfg} {w0 w4 : World} {i j : Nat} {eW eM : Nat → Nat} {na b5 b6 m t eb ls : Nat} {f e : Nat → Nat} (h : Built c w0 w4 i j eW eM na) (h5 : w4.rowIs b5 39 m (entRow e t)) (h6 : w4.rowIs b6 2 m (lenRow f t)) (hb5 : c.B ≤ b5) (hb6 : c.B ≤ b6) (hls : ls = f t) (q : Nat) :
    Built c w0 (((w4.setCell ⟨b6, t, none⟩ (.int .i64 ls)).setCell ⟨b5, t, none⟩ (.pointer (some ⟨eb, 0, none⟩))).drewN q) i j eW eM na ∧
    (((w4.setCell ⟨b6, t, none⟩ (.int .i64 ls)).setCell ⟨b5, t, none⟩ (.pointer (some ⟨eb, 0, none⟩))).drewN q).rowIs b5 39 m (entRow (fun x => if x = t then eb else e x) (t + 1)) ∧
    (((w4.setCell ⟨b6, t, none⟩ (.int .i64 ls)).setCell ⟨b5, t, none⟩ (.pointer (some ⟨eb, 0, none⟩))).drewN q).rowIs b6 2 m (lenRow f (t + 1)) ∧
    Beside (fun x => x = b5 ∨ x = b6) w4 (((w4.setCell ⟨b6, t, none⟩ (.int .i64 ls)).setCell ⟨b5, t, none⟩ (.pointer (some ⟨eb, 0, none⟩))).drewN q) := by
  obtain ⟨c5, g5, r5⟩ := h5
  obtain ⟨c6, g6, r6⟩ := h6
  have hne : b5 ≠ b6 := ne_type g5 g6 (by decide)
  have h1 := h.set g6 (Or.inr rfl) hb6 t (.int .i64 ls)
  have g5' : (w4.setCell ⟨b6, t, none⟩ (.int .i64 ls)).heap[b5]? = some (.cells c5 39 (0, 0)) := (Below.heap_setCell _ _ _ _ hne).trans g5
  have h2 := h1.set g5' (Or.inl rfl) hb5 t (.pointer (some ⟨eb, 0, none⟩))
  have e5 : w4.rowIs b5 39 m (entRow e t) := ⟨c5, g5, r5⟩
  have e6 : w4.rowIs b6 2 m (lenRow f t) := ⟨c6, g6, r6⟩
  refine ⟨h2.drewN q, ent_next (e5.setOther hne _), ?_, ?_⟩
  · have := len_next e6
    rw [← hls] at this
    exact this.setOther (Ne.symm hne) _
  · exact ((((Beside.refl (fun x => x = b5 ∨ x = b6) w4).setCell ⟨b6, t, none⟩ (Or.inr rfl) _).setCell ⟨b5, t, none⟩ (Or.inl rfl) _)).drewN q
end Trim
end Go.Proofs.Ybulkagbm
