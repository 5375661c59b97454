/- THE WALK OF 'LawS1598AHalves': the nil slice by itself; else make, copy, one halving by the contract of 'halve', the loop that holds each word against 'zzs1598ahalfword', the last test against 'zzs1598ahalfint'. -/
import Derived.Test.YbulkagbmRows
import Derived.Test.YbulkagbmHalve
import Derived.Test.YbulkagbmHalfs
import Derived.Test.YbulkagbmCopy
import Derived.WalkKit
import Derived.Deep.OwnRows
import Derived.Deep.QuietTactic
import Derived.BigQuiet
import Derived.WalkLawsBesides
import Derived.Below
namespace Go.Proofs.Ybulkagbm
open Go.RowKit
namespace Halves
open Halfs

theorem walk_far (a0 : Option Addr) (len0 cap0 : Nat) (a1 a2 : Int) (w : World) (h : 1024 < len0) :
    Calls Yba.prog 3 #[.slice a0 len0 cap0, .int .i64 a1, .int .i64 a2] w fun e w' => e = .returned (.bool true) ∧ Below w.heap.size w w' := by
  go_enter Yba.func3, Yba.ntmps3
  go_wp2
  go_ret
  exact ⟨rfl, Below.refl _ _⟩

theorem info24 : (Yba.prog.info? 24).map (fun i => (i.zero, i.size, i.bytes)) = some (some (.int .u64 0), 1, 8) := by kernel_rfl
theorem info24' : (Yba.prog.info? 24).map (·.size) = some 1 := by kernel_rfl

theorem walk_nil (a1 a2 : Int) (w : World) (b1 : -9223372036854775808 ≤ a1 ∧ a1 ≤ 9223372036854775807) :
    Calls Yba.prog 3 #[.slice none 0 0, .int .i64 a1, .int .i64 a2] w fun e w' => e = .returned (.bool true) ∧ Below w.heap.size w w' := by
  obtain ⟨b11, b12⟩ := b1
  go_enter Yba.func3, Yba.ntmps3
  go_wp2_with fail
  refine (halve_none w.heap.size (.int .u64 0) a1 a2 _ (heap_new _ _ _ rfl)).mono ?_
  rintro e w1 ⟨rfl, hs1, hb1⟩
  have c1 : w1.cell? ⟨w.heap.size, 1, none⟩ = some (.slice none 0 0) := cell_block hs1 1
  have c2 : w1.cell? ⟨w.heap.size, 2, none⟩ = some (.int .i64 (wrap64 (a1.tdiv 2))) := cell_block hs1 2
  have c3 : w1.cell? ⟨w.heap.size, 3, none⟩ = some (.int .i64 a2) := cell_block hs1 3
  have hbel : Below w.heap.size w w1 := ((Below.refl _ _).alloc (Nat.le_refl _) _).trans (hb1.below (by intro b hb; omega))
  clear hs1 hb1
  have hq := fun w => Lib.run_eql_slice_nil (P := Yba.prog) w 22 24
  go_wp2_with fail
  refine wp_loop_rounds 1 ?_
  rw [rounds_succ]
  go_wp2_with fail
  go_quiet ((go_at_call 10; exact Calls.quiet_of_same (halfint _ _ b11 b12)))
  go_wp2_with fail
  go_ret
  exact ⟨rfl, below_drewN hbel _⟩
theorem walk_near (x : Addr) (len0 cap0 : Nat) (zs : List Int) (a1 a2 : Int) (w : World) (h : len0 ≤ 1024) (hz : zs.length = len0) (b1 : -9223372036854775808 ≤ a1 ∧ a1 ≤ 9223372036854775807)
    (hc : 0 < len0 → x.block < w.heap.size) (hcell : ∀ i, i < len0 → w.cell? (x.add i) = some (.int .u64 (zs.getD i 0)))
    (h4 : ∀ z ∈ zs, 0 ≤ z ∧ z < 18446744073709551616) :
    Calls Yba.prog 3 #[.slice (some x) len0 cap0, .int .i64 a1, .int .i64 a2] w fun e w' => e = .returned (.bool true) ∧ Below w.heap.size w w' := by
  have hmk := run_make_row' (P := Yba.prog) 22 24 (.int .u64 0) 8 Yba.underlying22 info24 rfl .i64 .i64 len0 (by omega) (by omega)
  have hcp := run_copy_new (P := Yba.prog) w .u64 (.int .u64 0) 22 3 24 (some x) len0 cap0 zs Yba.underlying22 info24' hz (fun i hi => ⟨x, rfl, hc (by omega)⟩) (fun y hy i hi => by cases hy; exact hcell i hi)
  have HZ : Hid (zs.length = len0) := hz
  obtain ⟨b11, b12⟩ := b1
  clear hz
  go_enter Yba.func3, Yba.ntmps3
  go_wp2_with fail
  refine (halve_some (w.heap.size + 1) w.heap.size len0 (.int .u64 0) a1 a2 zs _ (by omega) HZ.out h (heap_new _ _ _ (by simp)) ((heap_old _ _ _ (by simp)).trans (heap_new _ _ _ rfl))).mono ?_
  rintro e w1 ⟨rfl, hg1, hs1, hb1⟩
  have c1 : w1.cell? ⟨w.heap.size + 1, 1, none⟩ = some (.slice (some ⟨w.heap.size, 0, none⟩) len0 len0) := cell_block hs1 1
  have c2 : w1.cell? ⟨w.heap.size + 1, 2, none⟩ = some (.int .i64 (wrap64 (a1.tdiv 2))) := cell_block hs1 2
  have c3 : w1.cell? ⟨w.heap.size + 1, 3, none⟩ = some (.int .i64 a2) := cell_block hs1 3
  have hbel : Below w.heap.size w w1 := (((Below.refl _ _).alloc (Nat.le_refl _) _).alloc (by simp) _).trans (hb1.below (by intro b hb; omega))
  have HG : Hid (w1.heap[w.heap.size]? = some (.cells ((zs.map hv).map (Value.int .u64)).toArray 24 (0, 0))) := hg1
  clear hs1 hb1 hg1
  have hq := fun w => Lib.run_eql_slice_nil (P := Yba.prog) w 22 24
  go_wp2_with fail
  go_loopw [9] (fun i wr => ∃ k : Nat, k ≤ len0 ∧ i = .int .i64 k ∧ Hid (∃ q, wr = w1.drewN q)) (fun i _ => len0 - (intOf i).toNat)
  case atStart => exact ⟨0, by omega, rfl, 0, rfl⟩
  case round =>
    obtain ⟨k, hk, rfl, HQ⟩ := hrel
    have hsame : ∀ a, wr.cell? a = w1.cell? a := by
      obtain ⟨q, rfl⟩ := HQ.out
      intro a; simp
    have c1r : wr.cell? ⟨w.heap.size + 1, 1, none⟩ = some (.slice (some ⟨w.heap.size, 0, none⟩) len0 len0) := (hsame _).trans c1
    have c2r : wr.cell? ⟨w.heap.size + 1, 2, none⟩ = some (.int .i64 (wrap64 (a1.tdiv 2))) := (hsame _).trans c2
    have c3r : wr.cell? ⟨w.heap.size + 1, 3, none⟩ = some (.int .i64 a2) := (hsame _).trans c3
    by_cases hlt : k < len0
    · have hcx0 : w.cell? (x.add k) = some (.int .u64 (zs.getD k 0)) := hcell k hlt
      obtain ⟨b, off, spot⟩ := x
      obtain rfl : spot = none := by simpa [Addr.add] using World.cell?_spot (hcell 0 (by omega))
      rw [Addr.add_lit] at hcx0
      obtain ⟨z, hzz⟩ : ∃ z, z = zs.getD k 0 := ⟨_, rfl⟩
      have hzl : k < zs.length := by have := HZ.out; omega
      have hzm : z ∈ zs := by rw [hzz]; simp [List.getD, hzl]
      have hz1 : 0 ≤ z := (h4 z hzm).1
      have hz2 : z < 18446744073709551616 := (h4 z hzm).2
      rw [← hzz] at hcx0
      have hcx : wr.cell? ⟨b, off + k, none⟩ = some (.int .u64 z) := ((hsame ⟨b, off + k, none⟩).trans (hbel.cell (p := ⟨b, off + k, none⟩) (hc (by omega)))).trans hcx0
      have hgx : wr.cell? ⟨w.heap.size, k, none⟩ = some (.int .u64 (hv z)) := by
        rw [hsame, cell_block HG.out k, hzz]
        simp [List.getD, hzl]
      clear hsame hzl hzm hzz hcx0 hc hcell h4 hcp hmk hq c1 c2 c3
      go_wp2_with fail
      go_quiet ((go_at_call 9; exact Calls.quiet_of_same (halfword _ _ hz1 hz2)))
      go_wp2_with fail
      go_roundw
      case rel => 
        obtain ⟨q, hq⟩ := HQ.out
        subst hq
        exact ⟨k + 1, by omega, by go_num, _, World.drewN_drewN _ _ _⟩
      case measure => simp [intOf]; omega
    · clear hsame hcell hc h4 hcp hmk hq c1 c2 c3
      go_wp2_with fail
      go_quiet ((go_at_call 10; exact Calls.quiet_of_same (halfint _ _ b11 b12)))
      go_wp2_with fail
      go_ret
      obtain ⟨q, hq⟩ := HQ.out
      subst hq
      exact ⟨rfl, below_drewN (below_drewN hbel _) _⟩
end Halves
end Go.Proofs.Ybulkagbm
