/- THE CONTRACTS OF 'zzs1598ahalfint' (function 10) AND 'zzs1598ahalfword' (function 9). -/
import Derived.Test.YbulkagbmRows
import Derived.Test.YbulkagbmHalve
import Derived.Test.YbulkagbmHalfBits
import Derived.WalkKit
import Derived.WalkLawsBesides
namespace Go.Proofs.Ybulkagbm
open Go.RowKit
namespace Halfs

theorem ret_int {k : IntKind} {a b : Int} (h : a = b) : Ending.returned (.int k a) = .returned (.int k b) := by rw [h]

theorem halfint (a : Int) (w : World) (h1 : -9223372036854775808 ≤ a) (h2 : a ≤ 9223372036854775807) : Calls Yba.prog 10 #[.int .i64 a] w fun e w' => e = .returned (.int .i64 (wrap64 (a.tdiv 2))) ∧ w' = w := by
  by_cases h : a < 0
  · by_cases ho : a % 2 = 0
    · have hb : (bits BinOp.and IntKind.i64 a 1 != 0) = false := by rw [i64_and1]; simpa using ho
      go_enter Yba.func10, Yba.ntmps10
      go_wp2
      go_ret
      exact ⟨ret_int (half_even a h1 h2 ho), rfl⟩
    · have hb : (bits BinOp.and IntKind.i64 a 1 != 0) = true := by rw [i64_and1]; simpa using ho
      go_enter Yba.func10, Yba.ntmps10
      go_wp2
      go_ret
      exact ⟨ret_int (half_odd a h1 h ho), rfl⟩
  · go_enter Yba.func10, Yba.ntmps10
    go_wp2
    go_ret
    exact ⟨ret_int (half_pos a (by omega) h2), rfl⟩

theorem hw_succ (z : Int) (k : Nat) : hw z (k + 1) = bits BinOp.or IntKind.u64 (hw z k) (IntKind.u64.wrap (bits BinOp.and IntKind.u64 (z / 2 ^ (k * 4)) 15 / 2 * 2 ^ (k * 4))) := rfl

theorem halfword0 (z : Int) (w : World) : Calls Yba.prog 9 #[.int .u64 z] w fun e w' => e = .returned (.int .u64 (hw z 16)) ∧ w' = w := by
  go_enter Yba.func9, Yba.ntmps9
  go_wp2
  go_loop [3, 4] (fun r j => ∃ k : Nat, k ≤ 16 ∧ j = .int .i64 k ∧ r = .int .u64 (hw z k)) (fun _ j => 16 - (intOf j).toNat)
  case atStart => exact ⟨0, by omega, rfl, rfl⟩
  case round =>
    obtain ⟨k, hk, rfl, rfl⟩ := hrel
    by_cases hlt : k < 16
    · go_wp2
      go_round
      case rel => exact ⟨k + 1, by omega, by go_num, by rw [hw_succ]⟩
      case measure => simp [intOf]; omega
    · go_wp2
      go_ret
      have : k = 16 := by omega
      subst this
      exact ⟨rfl, rfl⟩

theorem hv_nat (z : Int) (h1 : 0 ≤ z) (h2 : z < 18446744073709551616) : hv z = ((hvN z.toNat : Nat) : Int) := by
  unfold hv hvN
  rw [u64_and _ _ (by omega) (by omega) (by omega) (by omega)]
  congr 2
  omega

theorem halfword (z : Int) (w : World) (h1 : 0 ≤ z) (h2 : z < 18446744073709551616) : Calls Yba.prog 9 #[.int .u64 z] w fun e w' => e = .returned (.int .u64 (hv z)) ∧ w' = w := by
  have h := halfword0 z w
  rw [hw_nat z h1 h2 16 (Nat.le_refl _), hwN_all, ← hv_nat z h1 h2] at h
  exact h
end Halfs
end Go.Proofs.Ybulkagbm
