/- THE PLAIN LAW ON ONE WORD: halved four times under the mask it is 0. No Go in sight. -/
import Derived.Laws.BitsAllLaws
import Derived.Laws.Entries
namespace Go.Proofs.Ybulkagbm

def hvN (n : Nat) : Nat := n / 2 &&& 8608480567731124087

theorem hvN_bit (n i : Nat) : (hvN n).testBit i = (n.testBit (i + 1) && Nat.testBit 8608480567731124087 i) := by
  simp [hvN, Nat.testBit_and, Nat.testBit_add_one]
theorem mask_hi (i : Nat) (h : 63 ≤ i) : Nat.testBit 8608480567731124087 i = false := by
  refine Nat.testBit_lt_two_pow (Nat.lt_of_lt_of_le ?_ (Nat.pow_le_pow_right (by omega) h))
  decide
theorem mask_four : ∀ i, i < 64 → (Nat.testBit 8608480567731124087 (i + 3) && (Nat.testBit 8608480567731124087 (i + 2) && (Nat.testBit 8608480567731124087 (i + 1) && Nat.testBit 8608480567731124087 i))) = false := by decide
theorem hvN_four (n : Nat) : hvN (hvN (hvN (hvN n))) = 0 := by
  apply Nat.eq_of_testBit_eq
  intro i
  simp only [hvN_bit, Nat.zero_testBit]
  by_cases h : i < 64
  · have := mask_four i h
    revert this
    generalize Nat.testBit 8608480567731124087 (i + 3) = a
    generalize Nat.testBit 8608480567731124087 (i + 2) = b
    generalize Nat.testBit 8608480567731124087 (i + 1) = c
    generalize Nat.testBit 8608480567731124087 i = d
    cases a <;> cases b <;> cases c <;> cases d <;> simp
  · rw [mask_hi i (by omega)]; simp
theorem hvN_lt (n : Nat) : hvN n < 18446744073709551616 := by
  have : hvN n ≤ 8608480567731124087 := Nat.and_le_right
  omega
end Go.Proofs.Ybulkagbm
