/- THE CONTRACTS OF remove (22) AND release (23): the world behind them written out store by store. -/
import Derived.Test.YbulkagbmTrimReads
import Derived.RegionTactic
import Derived.BigRegion
namespace Go.Proofs.Ybulkagbm
open Go.RowKit
namespace Trim

set_option maxHeartbeats 800000 in
theorem remove (ob off nb na eb N cap nd pv nx : Nat) (n : Int) (w : World) (ho : w.cell? ⟨ob, off, none⟩ = some (.pointer (some ⟨nb, 0, none⟩)))
    (h0 : w.cell? ⟨nb, 0, none⟩ = some (.slice (some ⟨na, 0, none⟩) N cap)) (h4 : w.cell? ⟨eb, 4, none⟩ = some (.int .i32 nd)) (hnd : nd < N) (hpN : pv < N) (hxN : nx < N)
    (hp : w.cell? ⟨na, nd * 5 + 1, none⟩ = some (.int .i32 pv)) (hx : w.cell? ⟨na, nd * 5 + 2, none⟩ = some (.int .i32 nx)) (hn : w.cell? ⟨ob, off + 2, none⟩ = some (.int .i64 n)) (hn1 : 1 ≤ n ∧ n ≤ 100000)
    (c1 : ∃ v, w.cell? ⟨na, pv * 5 + 2, none⟩ = some (.int .i32 v)) (c2 : ∃ v, w.cell? ⟨na, nx * 5 + 1, none⟩ = some (.int .i32 v)) (c3 : ∃ v, w.cell? ⟨na, nd * 5 + 3, none⟩ = some (.int .i32 v))
    (fn : ∀ i, w.frozen? ⟨na, i, none⟩ = false) (fo : w.frozen? ⟨ob, off + 2, none⟩ = false)
    (d1 : ob ≠ na) (d2 : nb ≠ na) (d3 : pv ≠ nd) (d4 : nx ≠ nd) :
    Calls Yba.prog 22 #[.pointer (some ⟨ob, off, none⟩), .pointer (some ⟨eb, 0, none⟩)] w fun e w' => e = .returned (.tuple #[]) ∧
      ∃ q, w' = ((((w.setCell ⟨na, pv * 5 + 2, none⟩ (.int .i32 nx)).setCell ⟨na, nx * 5 + 1, none⟩ (.int .i32 pv)).setCell ⟨na, nd * 5 + 3, none⟩ (.int .i32 (-1))).setCell ⟨ob, off + 2, none⟩ (.int .i64 (n - 1))).drewN q := by
  obtain ⟨v1, c1⟩ := c1
  obtain ⟨v2, c2⟩ := c2
  obtain ⟨v3, c3⟩ := c3
  obtain ⟨hn11, hn12⟩ := hn1
  have f1 := fn (pv * 5 + 2)
  have f2 := fn (nx * 5 + 1)
  have f3 := fn (nd * 5 + 3)
  clear fn
  go_enter Yba.func22, Yba.ntmps22
  go_wp2_with fail
  refine (of nb na eb N cap nd w h0 h4 hnd).mono ?_
  rintro e w1 ⟨rfl, q, rfl⟩
  go_wp2_with fail
  go_region
  go_wp2_with fail
  go_region
  go_wp2_with fail
  go_end0
  exact ⟨rfl, q + 2, rfl⟩

set_option maxHeartbeats 800000 in
theorem release (nb na eb N cap nd : Nat) (fr : Int) (w : World)
    (h0 : w.cell? ⟨nb, 0, none⟩ = some (.slice (some ⟨na, 0, none⟩) N cap)) (h4 : w.cell? ⟨eb, 4, none⟩ = some (.int .i32 nd)) (hnd : nd < N)
    (h2 : w.cell? ⟨nb, 2, none⟩ = some (.int .i32 fr))
    (c0 : ∃ v, w.cell? ⟨na, nd * 5, none⟩ = some (.pointer v)) (c1 : ∃ v, w.cell? ⟨na, nd * 5 + 1, none⟩ = some (.int .i32 v)) (c2 : ∃ v, w.cell? ⟨na, nd * 5 + 2, none⟩ = some (.int .i32 v)) (c3 : ∃ v, w.cell? ⟨na, nd * 5 + 3, none⟩ = some (.int .i32 v)) (c4 : ∃ v, w.cell? ⟨na, nd * 5 + 4, none⟩ = some (.int .u32 v))
    (fn : ∀ i, w.frozen? ⟨na, i, none⟩ = false) (fb : w.frozen? ⟨nb, 2, none⟩ = false) (fe : w.frozen? ⟨eb, 4, none⟩ = false)
    (d1 : eb ≠ na) (d2 : nb ≠ na) (d3 : eb ≠ nb) :
    Calls Yba.prog 23 #[.pointer (some ⟨nb, 0, none⟩), .pointer (some ⟨eb, 0, none⟩)] w fun e w' => e = .returned (.tuple #[]) ∧
      ∃ q, w' = (((((((w.setCell ⟨na, nd * 5, none⟩ (.pointer none)).setCell ⟨na, nd * 5 + 1, none⟩ (.int .i32 0)).setCell ⟨na, nd * 5 + 2, none⟩ (.int .i32 fr)).setCell ⟨na, nd * 5 + 3, none⟩ (.int .i32 (-1))).setCell ⟨na, nd * 5 + 4, none⟩ (.int .u32 0)).setCell
        ⟨nb, 2, none⟩ (.int .i32 nd)).setCell ⟨eb, 4, none⟩ (.int .i32 0)).drewN q := by
  obtain ⟨v0, c0⟩ := c0
  obtain ⟨v1, c1⟩ := c1
  obtain ⟨v2, c2⟩ := c2
  obtain ⟨v3, c3⟩ := c3
  obtain ⟨v4, c4⟩ := c4
  have f0 := fn (nd * 5)
  have f1 := fn (nd * 5 + 1)
  have f2 := fn (nd * 5 + 2)
  have f3 := fn (nd * 5 + 3)
  have f4 := fn (nd * 5 + 4)
  clear fn
  go_enter Yba.func23, Yba.ntmps23
  go_wp2_with fail
  go_region
  go_wp2_with fail
  go_end0
  exact ⟨rfl, 1, rfl⟩
end Trim
end Go.Proofs.Ybulkagbm
