/- THE PLAIN LAWS OF 'zzs1598ahalfword' AND 'zzs1598ahalfint': sixteen counters one by one are the whole word at once; halving an int towards zero. No Go in sight. -/
import Derived.Test.YbulkagbmBits
import Derived.Laws.Bits128
import Derived.RowKit
namespace Go.Proofs.Ybulkagbm

/-! ### 'zzs1598ahalfword': sixteen counters, one by one -/
def hwN (n : Nat) : Nat → Nat
  | 0 => 0
  | k + 1 => hwN n k ||| ((n / 2 ^ (k * 4) &&& 15) / 2 * 2 ^ (k * 4))
theorem fifteen (j : Nat) : Nat.testBit 15 j = decide (j < 4) := by
  have : (15 : Nat) = 2 ^ 4 - 1 := rfl
  rw [this, Nat.testBit_two_pow_sub_one]
theorem piece_bit (n k i : Nat) : ((n / 2 ^ (k * 4) &&& 15) / 2 * 2 ^ (k * 4)).testBit i = (decide (k * 4 ≤ i) && (n.testBit (i + 1) && decide (i < k * 4 + 3))) := by
  rw [Nat.testBit_mul_two_pow, Nat.testBit_div_two, Nat.testBit_and, Nat.testBit_div_two_pow, fifteen]
  by_cases h : k * 4 ≤ i
  · have e : i - k * 4 + 1 + k * 4 = i + 1 := by omega
    have e2 : decide (i - k * 4 + 1 < 4) = decide (i < k * 4 + 3) := by rw [decide_eq_decide]; omega
    rw [e, e2]
  · simp [h]
theorem hwN_bit (n k i : Nat) : (hwN n k).testBit i = (decide (i < k * 4) && (n.testBit (i + 1) && decide (i % 4 < 3))) := by
  induction k with
  | zero => simp [hwN]
  | succ k ih =>
    rw [hwN, Nat.testBit_or, ih, piece_bit]
    by_cases h1 : i < k * 4
    · have h2 : ¬ k * 4 ≤ i := by omega
      have h3 : i < (k + 1) * 4 := by omega
      simp [h1, h2, h3]
    · by_cases h2 : i < (k + 1) * 4
      · have h3 : k * 4 ≤ i := by omega
        have h4 : decide (i < k * 4 + 3) = decide (i % 4 < 3) := by rw [decide_eq_decide]; omega
        simp [h1, h2, h3, h4]
      · have h3 : ¬ i < k * 4 + 3 := by omega
        simp [h1, h2, h3]
theorem mask_bits : ∀ i, i < 64 → Nat.testBit 8608480567731124087 i = decide (i % 4 < 3) := by decide
theorem hwN_all (n : Nat) : hwN n 16 = hvN n := by
  apply Nat.eq_of_testBit_eq
  intro i
  rw [hwN_bit, hvN_bit]
  by_cases h : i < 64
  · rw [mask_bits i h]; simp [h]
  · rw [mask_hi i (by omega)]; simp [h]
theorem hwN_lt (n k : Nat) (hk : k ≤ 16) : hwN n k < 18446744073709551616 := by
  apply Nat.lt_pow_two_of_testBit (n := 64)
  intro i hi
  rw [hwN_bit]
  simp [show ¬ i < k * 4 by omega]
theorem piece_lt (n k : Nat) (hk : k < 16) : (n / 2 ^ (k * 4) &&& 15) / 2 * 2 ^ (k * 4) < 18446744073709551616 := by
  apply Nat.lt_pow_two_of_testBit (n := 64)
  intro i hi
  rw [piece_bit]
  simp [show ¬ i < k * 4 + 3 by omega]

/-- The loop of 'zzs1598ahalfword', in the walk's spelling. -/
def hw (z : Int) : Nat → Int
  | 0 => 0
  | k + 1 => bits BinOp.or IntKind.u64 (hw z k) (IntKind.u64.wrap (bits BinOp.and IntKind.u64 (z / 2 ^ (k * 4)) 15 / 2 * 2 ^ (k * 4)))
theorem pow_cast (k : Nat) : ((2 : Int) ^ k) = ((2 ^ k : Nat) : Int) := by simp
theorem hw_nat (z : Int) (h1 : 0 ≤ z) (h2 : z < 18446744073709551616) (k : Nat) (hk : k ≤ 16) : hw z k = ((hwN z.toNat k : Nat) : Int) := by
  induction k with
  | zero => rfl
  | succ k ih =>
    have e0 : z / 2 ^ (k * 4) = ((z.toNat / 2 ^ (k * 4) : Nat) : Int) := by
      rw [pow_cast, Int.natCast_ediv, Int.toNat_of_nonneg h1]
    have hl : z.toNat / 2 ^ (k * 4) < 18446744073709551616 := Nat.lt_of_le_of_lt (Nat.div_le_self _ _) (by omega)
    have e1 : bits BinOp.and IntKind.u64 (z / 2 ^ (k * 4)) 15 = ((z.toNat / 2 ^ (k * 4) &&& 15 : Nat) : Int) := by
      rw [e0]; exact u64_and_nat _ 15 hl (by omega)
    have hp := piece_lt z.toNat k (by omega)
    have hq := hwN_lt z.toNat k (by omega)
    rw [hw, ih (by omega), e1]
    have e2 : ((z.toNat / 2 ^ (k * 4) &&& 15 : Nat) : Int) / 2 * 2 ^ (k * 4) = (((z.toNat / 2 ^ (k * 4) &&& 15) / 2 * 2 ^ (k * 4) : Nat) : Int) := by
      rw [pow_cast, Int.natCast_mul, Int.natCast_ediv]; rfl
    rw [e2, IntKind.wrap_u64, Int.emod_eq_of_lt (by omega) (by omega), u64_or_nat _ _ hq hp]
    rfl

/-! ### 'zzs1598ahalfint' -/
theorem i64_and1 (n : Int) : bits .and .i64 n 1 = n % 2 := by
  have h127 : (BitVec.ofInt 64 1).toNat = 2 ^ 1 - 1 := by decide
  have key : (BitVec.ofInt 64 n &&& BitVec.ofInt 64 1).toNat = (n % ((2 ^ 64 : Nat) : Int)).toNat % 2 ^ 1 := by
    rw [BitVec.toNat_and, BitVec.toNat_ofInt, h127, Nat.and_two_pow_sub_one_eq_mod]
  show IntKind.i64.wrap ((BitVec.ofInt 64 n &&& BitVec.ofInt 64 1).toNat : Nat) = n % 2
  rw [key, IntKind.wrap_i64]
  omega
theorem tdiv_two (a : Int) : a.tdiv 2 = if 0 ≤ a then a / 2 else -((-a) / 2) := by
  split
  · rw [Int.tdiv_eq_ediv_of_nonneg (by assumption)]
  · have h := Int.neg_tdiv (-a) 2
    rw [Int.neg_neg] at h
    rw [h, Int.tdiv_eq_ediv_of_nonneg (by omega)]
theorem half_even (a : Int) (h1 : -9223372036854775808 ≤ a) (h2 : a ≤ 9223372036854775807) (h : a % 2 = 0) : a / 2 = RowKit.wrap64 (a.tdiv 2) := by
  have : a.tdiv 2 = a / 2 := by rw [tdiv_two]; split <;> omega
  rw [this]; unfold RowKit.wrap64; omega
theorem half_pos (a : Int) (h0 : 0 ≤ a) (h2 : a ≤ 9223372036854775807) : a / 2 = RowKit.wrap64 (a.tdiv 2) := by
  have : a.tdiv 2 = a / 2 := by rw [tdiv_two]; split <;> omega
  rw [this]; unfold RowKit.wrap64; omega
theorem half_odd (a : Int) (h1 : -9223372036854775808 ≤ a) (h0 : a < 0) (h : a % 2 ≠ 0) : a / 2 + 1 = RowKit.wrap64 (a.tdiv 2) := by
  have : a.tdiv 2 = a / 2 + 1 := by rw [tdiv_two]; split <;> omega
  rw [this]; unfold RowKit.wrap64; omega

end Go.Proofs.Ybulkagbm
