/- THE PLAIN LAW: what Raw and the model append for the bytes z 0 .. z (n-1). No Go in sight. -/
import Derived.RowKit
namespace Go.Proofs.Ybulkagca

/-- The text from place i on, with fuel. -/
def escF (z : Nat → Int) (n : Nat) : Nat → Nat → List Int
  | 0, _ => []
  | f + 1, i =>
    if n ≤ i then []
    else if z i = 60 then [92, 117, 48, 48, 51, 99] ++ escF z n f (i + 1)
    else if z i = 62 then [92, 117, 48, 48, 51, 101] ++ escF z n f (i + 1)
    else if z i = 38 then [92, 117, 48, 48, 50, 54] ++ escF z n f (i + 1)
    else if z i = 226 ∧ i + 2 < n ∧ z (i + 1) = 128 ∧ z (i + 2) = 168 then [92, 117, 50, 48, 50, 56] ++ escF z n f (i + 3)
    else if z i = 226 ∧ i + 2 < n ∧ z (i + 1) = 128 ∧ z (i + 2) = 169 then [92, 117, 50, 48, 50, 57] ++ escF z n f (i + 3)
    else z i :: escF z n f (i + 1)

theorem escF_fuel (z : Nat → Int) (n : Nat) : ∀ (f g i : Nat), n - i ≤ f → n - i ≤ g → escF z n f i = escF z n g i
  | 0, 0, _, _, _ => rfl
  | 0, g + 1, i, h, _ => by rw [escF, escF, if_pos (by omega)]
  | f + 1, 0, i, _, h => by rw [escF, escF, if_pos (by omega)]
  | f + 1, g + 1, i, hf, hg => by
    rw [escF, escF]
    by_cases h : n ≤ i
    · rw [if_pos h, if_pos h]
    · rw [if_neg h, if_neg h, escF_fuel z n f g (i + 1) (by omega) (by omega), escF_fuel z n f g (i + 3) (by omega) (by omega)]

def esc (z : Nat → Int) (n i : Nat) : List Int := escF z n (n - i) i

theorem esc_end (z : Nat → Int) (n i : Nat) (h : n ≤ i) : esc z n i = [] := by
  unfold esc
  rw [show n - i = 0 by omega, escF]
theorem esc_step (z : Nat → Int) (n i : Nat) (h : i < n) : esc z n i =
    if z i = 60 then [92, 117, 48, 48, 51, 99] ++ esc z n (i + 1)
    else if z i = 62 then [92, 117, 48, 48, 51, 101] ++ esc z n (i + 1)
    else if z i = 38 then [92, 117, 48, 48, 50, 54] ++ esc z n (i + 1)
    else if z i = 226 ∧ i + 2 < n ∧ z (i + 1) = 128 ∧ z (i + 2) = 168 then [92, 117, 50, 48, 50, 56] ++ esc z n (i + 3)
    else if z i = 226 ∧ i + 2 < n ∧ z (i + 1) = 128 ∧ z (i + 2) = 169 then [92, 117, 50, 48, 50, 57] ++ esc z n (i + 3)
    else z i :: esc z n (i + 1) := by
  obtain ⟨f, hf⟩ : ∃ f, n - i = f + 1 := ⟨n - i - 1, by omega⟩
  unfold esc
  rw [hf, escF, if_neg (by omega), escF_fuel z n f (n - (i + 1)) (i + 1) (by omega) (by omega), escF_fuel z n f (n - (i + 3)) (i + 3) (by omega) (by omega)]
theorem esc_60 (z : Nat → Int) (n i : Nat) (h : i < n) (hz : z i = 60) : esc z n i = [92, 117, 48, 48, 51, 99] ++ esc z n (i + 1) := by rw [esc_step z n i h, if_pos hz]
theorem esc_62 (z : Nat → Int) (n i : Nat) (h : i < n) (hz : z i = 62) : esc z n i = [92, 117, 48, 48, 51, 101] ++ esc z n (i + 1) := by rw [esc_step z n i h, if_neg (by omega), if_pos hz]
theorem esc_38 (z : Nat → Int) (n i : Nat) (h : i < n) (hz : z i = 38) : esc z n i = [92, 117, 48, 48, 50, 54] ++ esc z n (i + 1) := by rw [esc_step z n i h, if_neg (by omega), if_neg (by omega), if_pos hz]
theorem esc_8 (z : Nat → Int) (n i : Nat) (h : i + 2 < n) (h0 : z i = 226) (h1 : z (i + 1) = 128) (h2 : z (i + 2) = 168) : esc z n i = [92, 117, 50, 48, 50, 56] ++ esc z n (i + 3) := by
  rw [esc_step z n i (by omega), if_neg (by omega), if_neg (by omega), if_neg (by omega), if_pos ⟨h0, h, h1, h2⟩]
theorem esc_9 (z : Nat → Int) (n i : Nat) (h : i + 2 < n) (h0 : z i = 226) (h1 : z (i + 1) = 128) (h2 : z (i + 2) = 169) : esc z n i = [92, 117, 50, 48, 50, 57] ++ esc z n (i + 3) := by
  rw [esc_step z n i (by omega), if_neg (by omega), if_neg (by omega), if_neg (by omega), if_neg (by omega), if_pos ⟨h0, h, h1, h2⟩]
theorem esc_plain (z : Nat → Int) (n i : Nat) (h : i < n) (h1 : z i ≠ 60) (h2 : z i ≠ 62) (h3 : z i ≠ 38) (h4 : ¬ (z i = 226 ∧ i + 2 < n ∧ z (i + 1) = 128 ∧ (z (i + 2) = 168 ∨ z (i + 2) = 169))) : esc z n i = z i :: esc z n (i + 1) := by
  rw [esc_step z n i h, if_neg h1, if_neg h2, if_neg h3, if_neg (fun e => h4 ⟨e.1, e.2.1, e.2.2.1, Or.inl e.2.2.2⟩), if_neg (fun e => h4 ⟨e.1, e.2.1, e.2.2.1, Or.inr e.2.2.2⟩)]

/-- The bytes z a .. z (b-1). -/
def seg (z : Nat → Int) (a b : Nat) : List Int := (List.range (b - a)).map (fun t => z (a + t))
theorem length_seg (z : Nat → Int) (a b : Nat) : (seg z a b).length = b - a := by simp [seg]
theorem seg_nil (z : Nat → Int) (a : Nat) : seg z a a = [] := by simp [seg]
theorem seg_snoc (z : Nat → Int) (a b : Nat) (h : a ≤ b) : seg z a (b + 1) = seg z a b ++ [z b] := by
  unfold seg
  rw [show b + 1 - a = (b - a) + 1 by omega, List.range_succ, List.map_append]
  simp [show a + (b - a) = b by omega]
theorem seg_getD (z : Nat → Int) (a b j : Nat) (h : j < b - a) : (seg z a b).getD j 0 = z (a + j) := by simp [seg, List.getD, h]

/-- Where Raw stands: 'acc' is in b, the bytes from dn to i are still to be copied. -/
def Inv (z : Nat → Int) (n i dn : Nat) (acc : List Int) : Prop := acc ++ (seg z dn i ++ esc z n i) = esc z n 0
theorem inv_start (z : Nat → Int) (n : Nat) : Inv z n 0 0 [] := by simp [Inv, seg_nil]
theorem inv_plain {z : Nat → Int} {n i dn : Nat} {acc : List Int} (h : Inv z n i dn acc) (hd : dn ≤ i) (he : esc z n i = z i :: esc z n (i + 1)) : Inv z n (i + 1) dn acc := by
  unfold Inv at *
  rw [seg_snoc z dn i hd, ← h, he]
  simp
theorem inv_esc {z : Nat → Int} {n i dn k : Nat} {acc t : List Int} (h : Inv z n i dn acc) (he : esc z n i = t ++ esc z n (i + k)) : Inv z n (i + k) (i + k) (acc ++ seg z dn i ++ t) := by
  unfold Inv at *
  rw [seg_nil, ← h, he]
  simp
theorem inv_end {z : Nat → Int} {n dn : Nat} {acc : List Int} (h : Inv z n n dn acc) : acc ++ seg z dn n = esc z n 0 := by
  unfold Inv at h
  rw [esc_end z n n (Nat.le_refl _)] at h
  simpa using h
end Go.Proofs.Ybulkagca
