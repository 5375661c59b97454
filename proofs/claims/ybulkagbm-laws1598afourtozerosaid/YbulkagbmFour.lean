/- THE WALK OF 'LawS1598AFourToZero': make, copy, four halvings by the contract of 'halve', then the loop that looks for a word that is not 0. -/
import Derived.Test.YbulkagbmRows
import Derived.Test.YbulkagbmHalve
import Derived.Test.YbulkagbmCopy
import Derived.WalkKit
import Derived.Deep.OwnRows
import Derived.WalkLawsBesides
import Derived.Below
namespace Go.Proofs.Ybulkagbm
open Go.RowKit
namespace Four

theorem walk_far (a0 : Option Addr) (len0 cap0 : Nat) (w : World) (h : 1024 < len0) :
    Calls Yba.prog 4 #[.slice a0 len0 cap0] w fun e w' => e = .returned (.bool true) ∧ Below w.heap.size w w' := by
  go_enter Yba.func4, Yba.ntmps4
  go_wp2
  go_ret
  exact ⟨rfl, Below.refl _ _⟩

theorem info24 : (Yba.prog.info? 24).map (fun i => (i.zero, i.size, i.bytes)) = some (some (.int .u64 0), 1, 8) := by kernel_rfl

theorem info24' : (Yba.prog.info? 24).map (·.size) = some 1 := by kernel_rfl

def it (f : Int → Int) : Nat → List Int → List Int
  | 0, l => l
  | k + 1, l => it f k (l.map f)
theorem it_succ (f : Int → Int) (k : Nat) (l : List Int) : it f (k + 1) l = (it f k l).map f := by
  induction k generalizing l with
  | zero => rfl
  | succ k ih => rw [it, ih]; rfl
theorem length_it (f : Int → Int) (k : Nat) (l : List Int) : (it f k l).length = l.length := by
  induction k generalizing l with
  | zero => rfl
  | succ k ih => rw [it, ih]; simp

theorem walk_near (a0 : Option Addr) (len0 cap0 : Nat) (zs : List Int) (w : World) (h : len0 ≤ 1024) (hz : zs.length = len0) 
    (hc : ∀ i, i < len0 → ∃ x, a0 = some x ∧ x.block < w.heap.size) (hcell : ∀ x, a0 = some x → ∀ i, i < len0 → w.cell? (x.add i) = some (.int .u64 (zs.getD i 0)))
    (h4 : ∀ z ∈ zs, hv (hv (hv (hv z))) = 0) :
    Calls Yba.prog 4 #[.slice a0 len0 cap0] w fun e w' => e = .returned (.bool true) ∧ Below w.heap.size w w' := by
  have hmk := run_make_row' (P := Yba.prog) 22 24 (.int .u64 0) 8 Yba.underlying22 info24 rfl .i64 .i64 len0 (by omega) (by omega)
  have hcp := run_copy_new (P := Yba.prog) w .u64 (.int .u64 0) 22 3 24 a0 len0 cap0 zs Yba.underlying22 info24' hz hc hcell
  have HZ : Hid (zs.length = len0) := hz
  clear hc hcell hz
  go_enter Yba.func4, Yba.ntmps4
  go_wp2_with fail
  go_loopw [5] (fun i wr => ∃ k : Nat, k ≤ 4 ∧ i = .int .i64 k ∧ (∃ a : Int, Hid (wr.heap[w.heap.size + 1]? = some (.cells #[.int .u64 0, .slice (some ⟨w.heap.size, 0, none⟩) len0 len0, .int .i64 a, .int .i64 0] 28 (0, 0)))) ∧
      Hid (wr.heap[w.heap.size]? = some (.cells ((it hv k zs).map (Value.int .u64)).toArray 24 (0, 0))) ∧ Below w.heap.size w wr) (fun i _ => 4 - (intOf i).toNat)
  case atStart => 
    refine ⟨0, by omega, rfl, ⟨0, ?_⟩, ?_, ((Below.refl _ _).alloc (Nat.le_refl _) _).alloc (by simp) _⟩
    · exact heap_new _ _ _ (by simp)
    · exact (heap_old _ _ _ (by simp)).trans (heap_new _ _ _ rfl)
  case round =>
    obtain ⟨k, hk, rfl, ⟨a, HS⟩, HG, hbel⟩ := hrel
    by_cases hlt : k < 4
    · go_wp2_with (go_at_call 8; refine (halve_some (w.heap.size + 1) w.heap.size len0 (.int .u64 0) a 0 (it hv k zs) wr (by omega) (by rw [length_it]; exact HZ.out) h HS.out HG.out).mono ?_; rintro e w1 ⟨rfl, hg1, hs1, hb1⟩)
      go_roundw
      case rel => exact ⟨k + 1, by omega, by go_num, ⟨_, hs1⟩, by rw [it_succ]; exact hg1, hbel.trans (hb1.below (by intro b hb; omega))⟩
      case measure => simp [intOf]; omega
    · have hk4 : k = 4 := by omega
      have hz0 : ∀ j, j < len0 → (it hv k zs)[j]? = some 0 := by
        intro j hj
        have := HZ.out
        subst hk4
        simp only [it, List.getElem?_map, show j < zs.length by omega, List.getElem?_eq_getElem, Option.map_some]
        rw [h4 _ (List.getElem_mem _)]
      have h1r : wr.cell? ⟨w.heap.size + 1, 1, none⟩ = some (.slice (some ⟨w.heap.size, 0, none⟩) len0 len0) := cell_block HS.out 1
      have hcr : ∀ j, j < len0 → wr.cell? ⟨w.heap.size, j, none⟩ = some (.int .u64 0) := by
        intro j hj
        rw [cell_block HG.out j]
        simp [hz0 j hj]
      clear hz0 hk4
      go_wp2
      go_loop [6] (fun i => ∃ k : Nat, k ≤ len0 ∧ i = .int .i64 k) (fun i => len0 - (intOf i).toNat)
      case atStart => exact ⟨0, by omega, rfl⟩
      case round =>
        obtain ⟨j, hj, rfl⟩ := hrel
        by_cases hjl : j < len0
        · have hcj := hcr j hjl
          clear hcr
          go_wp2
          go_round
          case rel => exact ⟨j + 1, by omega, by go_num⟩
          case measure => simp [intOf]; omega
        · go_wp2
          go_ret
          exact ⟨rfl, hbel⟩

theorem hv_nat (z : Int) (h1 : 0 ≤ z) (h2 : z < 18446744073709551616) : hv z = ((hvN z.toNat : Nat) : Int) := by
  unfold hv hvN
  rw [u64_and _ _ (by omega) (by omega) (by omega) (by omega)]
  congr 2
  omega
theorem hv_four (z : Int) (h1 : 0 ≤ z) (h2 : z < 18446744073709551616) : hv (hv (hv (hv z))) = 0 := by
  have l1 := hvN_lt z.toNat
  have l2 := hvN_lt (hvN z.toNat)
  have l3 := hvN_lt (hvN (hvN z.toNat))
  rw [hv_nat z h1 h2, hv_nat (hvN z.toNat : Nat) (by omega) (by omega), Int.toNat_natCast, hv_nat (hvN (hvN z.toNat) : Nat) (by omega) (by omega), Int.toNat_natCast, hv_nat (hvN (hvN (hvN z.toNat)) : Nat) (by omega) (by omega), Int.toNat_natCast, hvN_four]
  rfl
theorem wf_u64 (z : Int) (h : (Lit.int .u64 z).wf = true) : 0 ≤ z ∧ z < 18446744073709551616 := by
  simp [Lit.wf, IntKind.min, IntKind.max, IntKind.bits, IntKind.signed] at h
  omega
end Four
end Go.Proofs.Ybulkagbm
