/- THE PLAIN LAW OF THE PIECES: a text of pieces is escaped piece by piece. No Go in sight. -/
import Derived.Test.YbulkagcaPlain
namespace Go.Proofs.Ybulkagca

def piece : Nat → List Int
  | 0 => [60]
  | 1 => [62]
  | 2 => [38]
  | 3 => [226, 128, 168]
  | 4 => [226, 128, 169]
  | 5 => [97]
  | 6 => [226]
  | 7 => [226, 128]
  | 8 => [34]
  | _ => [226, 128, 170]
def escd : Nat → List Int
  | 0 => [92, 117, 48, 48, 51, 99]
  | 1 => [92, 117, 48, 48, 51, 101]
  | 2 => [92, 117, 48, 48, 50, 54]
  | 3 => [92, 117, 50, 48, 50, 56]
  | 4 => [92, 117, 50, 48, 50, 57]
  | 5 => [97]
  | 6 => [226]
  | 7 => [226, 128]
  | 8 => [34]
  | _ => [226, 128, 170]
def pieces (ks : List Nat) : List Int := ks.flatMap piece
def escds (ks : List Nat) : List Int := ks.flatMap escd

theorem piece_cases {P : Nat → Prop} (h0 : P 0) (h1 : P 1) (h2 : P 2) (h3 : P 3) (h4 : P 4) (h5 : P 5) (h6 : P 6) (h7 : P 7) (h8 : P 8) (h9 : ∀ k, P (k + 9)) : ∀ k, P k
  | 0 => h0 | 1 => h1 | 2 => h2 | 3 => h3 | 4 => h4 | 5 => h5 | 6 => h6 | 7 => h7 | 8 => h8 | k + 9 => h9 k

theorem length_piece : ∀ k, 1 ≤ (piece k).length ∧ (piece k).length ≤ 3 := piece_cases (by decide) (by decide) (by decide) (by decide) (by decide) (by decide) (by decide) (by decide) (by decide) (fun k => by simp [piece])
theorem length_escd : ∀ k, (escd k).length ≤ 6 := piece_cases (by decide) (by decide) (by decide) (by decide) (by decide) (by decide) (by decide) (by decide) (by decide) (fun k => by simp [escd])
theorem length_pieces (ks : List Nat) : ks.length ≤ (pieces ks).length ∧ (pieces ks).length ≤ 3 * ks.length := by
  induction ks with
  | nil => simp [pieces]
  | cons k ks ih => have := length_piece k; simp only [pieces, List.flatMap_cons, List.length_append, List.length_cons] at ih ⊢; omega
theorem length_escds (ks : List Nat) : (escds ks).length ≤ 6 * ks.length := by
  induction ks with
  | nil => simp [escds]
  | cons k ks ih => have := length_escd k; simp only [escds, List.flatMap_cons, List.length_append, List.length_cons] at ih ⊢; omega
theorem pieces_snoc (ks : List Nat) (k : Nat) : pieces (ks ++ [k]) = pieces ks ++ piece k := by simp [pieces]
theorem escds_snoc (ks : List Nat) (k : Nat) : escds (ks ++ [k]) = escds ks ++ escd k := by simp [escds]

theorem head_piece : ∀ k, (piece k).getD 0 0 ≠ 128 ∧ (piece k).getD 0 0 ≠ 168 ∧ (piece k).getD 0 0 ≠ 169 := piece_cases (by decide) (by decide) (by decide) (by decide) (by decide) (by decide) (by decide) (by decide) (by decide) (fun k => by simp [piece])
theorem head_pieces (ks : List Nat) : (pieces ks).getD 0 0 ≠ 128 ∧ (pieces ks).getD 0 0 ≠ 168 ∧ (pieces ks).getD 0 0 ≠ 169 := by
  cases ks with
  | nil => simp [pieces]
  | cons k ks =>
    have h := head_piece k
    have h1 := (length_piece k).1
    obtain ⟨x, t, hx⟩ : ∃ x t, piece k = x :: t := by cases hp : piece k with | nil => simp [hp] at h1 | cons x t => exact ⟨x, t, rfl⟩
    simp [pieces, hx] at h ⊢
    exact h
theorem range_piece : ∀ k, ∀ x ∈ piece k, 0 ≤ x ∧ x ≤ 255 := piece_cases (by decide) (by decide) (by decide) (by decide) (by decide) (by decide) (by decide) (by decide) (by decide) (fun k => by simp [piece])
theorem range_pieces (ks : List Nat) (i : Nat) : 0 ≤ (pieces ks).getD i 0 ∧ (pieces ks).getD i 0 ≤ 255 := by
  by_cases h : i < (pieces ks).length
  · have hm : (pieces ks).getD i 0 ∈ pieces ks := by simp [List.getD, h]
    obtain ⟨k, _, hk⟩ := List.mem_flatMap.1 hm
    exact range_piece k _ hk
  · simp [List.getD, List.getElem?_eq_none (Nat.le_of_not_lt h)]

theorem esc_pieces (z : Nat → Int) (n : Nat) (ks : List Nat) : ∀ i, n = i + (pieces ks).length → (∀ j, j < (pieces ks).length → z (i + j) = (pieces ks).getD j 0) → esc z n i = escds ks := by
  induction ks with
  | nil => intro i hn _; exact esc_end z n i (by simp [pieces] at hn; omega)
  | cons k ks ih =>
    intro i hn hz
    have hr := head_pieces ks
    have e1 : pieces (k :: ks) = piece k ++ pieces ks := rfl
    have e2 : escds (k :: ks) = escd k ++ escds ks := rfl
    have hnl : n = i + (piece k).length + (pieces ks).length := by rw [hn, e1, List.length_append]; omega
    have hrest : esc z n (i + (piece k).length) = escds ks := by
      refine ih _ hnl fun j hj => ?_
      rw [Nat.add_assoc, hz _ (by rw [e1, List.length_append]; omega), e1]
      simp [List.getD, List.getElem?_append, show ¬ (piece k).length + j < (piece k).length by omega]
    have hown : ∀ j, j < (piece k).length → z (i + j) = (piece k).getD j 0 := by
      intro j hj
      rw [hz j (by rw [e1, List.length_append]; omega), e1]
      simp [List.getD, List.getElem?_append, hj]
    have hnext : i + (piece k).length < n → z (i + (piece k).length) ≠ 128 ∧ z (i + (piece k).length) ≠ 168 ∧ z (i + (piece k).length) ≠ 169 := by
      intro hlt
      rw [hz _ (by rw [e1, List.length_append]; omega), e1]
      simpa [List.getD, List.getElem?_append] using hr
    rw [e2, ← hrest]
    clear hz hrest ih hr e1 e2 hn
    revert hown hnext hnl
    generalize (pieces ks).length = m
    revert k
    refine piece_cases ?_ ?_ ?_ ?_ ?_ ?_ ?_ ?_ ?_ (fun k => ?_)
    all_goals intro hnl hown hnext
    all_goals simp only [piece, List.length_cons, List.length_nil] at hnl hown hnext
    · exact esc_60 z n i (by omega) (hown 0 (by omega))
    · exact esc_62 z n i (by omega) (hown 0 (by omega))
    · exact esc_38 z n i (by omega) (hown 0 (by omega))
    · exact esc_8 z n i (by omega) (hown 0 (by omega)) (hown 1 (by omega)) (hown 2 (by omega))
    · exact esc_9 z n i (by omega) (hown 0 (by omega)) (hown 1 (by omega)) (hown 2 (by omega))
    · have h0 : z i = 97 := hown 0 (by omega)
      rw [esc_plain z n i (by omega) (by omega) (by omega) (by omega) (by omega), h0]; rfl
    · have h0 : z i = 226 := hown 0 (by omega)
      rw [esc_plain z n i (by omega) (by omega) (by omega) (by omega) (fun e => (hnext (by omega)).1 e.2.2.1), h0]; rfl
    · have h0 : z i = 226 := hown 0 (by omega)
      have h1 : z (i + 1) = 128 := hown 1 (by omega)
      rw [esc_plain z n i (by omega) (by omega) (by omega) (by omega) (fun e => by have := hnext e.2.1; rcases e.2.2.2 with h | h; exact this.2.1 h; exact this.2.2 h), h0, esc_plain z n (i + 1) (by omega) (by omega) (by omega) (by omega) (by omega), h1]; rfl
    · have h0 : z i = 34 := hown 0 (by omega)
      rw [esc_plain z n i (by omega) (by omega) (by omega) (by omega) (by omega), h0]; rfl
    · have h0 : z i = 226 := hown 0 (by omega)
      have h1 : z (i + 1) = 128 := hown 1 (by omega)
      have h2 : z (i + 2) = 170 := hown 2 (by omega)
      rw [esc_plain z n i (by omega) (by omega) (by omega) (by omega) (by omega), h0, esc_plain z n (i + 1) (by omega) (by omega) (by omega) (by omega) (by omega), h1, esc_plain z n (i + 2) (by omega) (by omega) (by omega) (by omega) (by omega), h2]; rfl
end Go.Proofs.Ybulkagca
