/- 'LawS1599AModel' (function 3): the walk. -/
import Derived.Test.YbulkagcaCopy
namespace Go.Proofs.Ybulkagca
open Go.RowKit
namespace M

theorem far0 (a0 : Option Addr) (len0 cap0 : Nat) (a1 : Option Addr) (len1 cap1 : Nat) (w : World) (h : 1024 < len0) :
    Calls Yba.prog 3 #[.slice a0 len0 cap0, .slice a1 len1 cap1] w fun e w' => e = .returned (.bool true) ∧ Below w.heap.size w w' := by
  go_enter Yba.func3, Yba.ntmps3
  go_wp2
  go_ret
  exact ⟨rfl, Below.refl _ _⟩
theorem far1 (a0 : Option Addr) (len0 cap0 : Nat) (a1 : Option Addr) (len1 cap1 : Nat) (w : World) (h0 : ¬ 1024 < len0) (h : 1024 < len1) :
    Calls Yba.prog 3 #[.slice a0 len0 cap0, .slice a1 len1 cap1] w fun e w' => e = .returned (.bool true) ∧ Below w.heap.size w w' := by
  go_enter Yba.func3, Yba.ntmps3
  go_wp2
  go_ret
  exact ⟨rfl, Below.refl _ _⟩

set_option maxHeartbeats 800000 in
/-- Both short: by what Raw and the model answer. -/
theorem near (w : World) (a0 : Option Addr) (n0 cap0 : Nat) (y : List Int) (a1 : Option Addr) (n cap : Nat) (l : List Int) (h0 : ¬ 1024 < n0) (h1 : ¬ 1024 < n) (hl : 0 < (y ++ l).length) (hy : y.length = n0)
    (hc : ∀ i, i < n0 → ∃ x, a0 = some x ∧ x.block < w.heap.size) (hcell : ∀ x, a0 = some x → ∀ i, i < n0 → w.cell? (x.add i) = some (.int .u8 (y.getD i 0)))
    (hraw : ∀ w1 v1, Below w.heap.size w w1 → Own w1 w.heap.size v1 y → Calls Yba.prog 5 #[v1, .slice a1 n cap] w1 fun e w' => ∃ v', e = .returned v' ∧ Own w' w.heap.size v' (y ++ l) ∧ Below w.heap.size w1 w')
    (hmod : ∀ w1, Below w.heap.size w w1 → Calls Yba.prog 7 #[.slice a0 n0 cap0, .slice a1 n cap] w1 fun e w' => ∃ v', e = .returned v' ∧ Own w' w1.heap.size v' (y ++ l) ∧ Below w1.heap.size w1 w') :
    Calls Yba.prog 3 #[.slice a0 n0 cap0, .slice a1 n cap] w fun e w' => e = .returned (.bool true) ∧ Below w.heap.size w w' := by
  have HCP := copy_any w a0 n0 cap0 y hy (by omega) hc hcell
  clear hc hcell
  have HRAW : Hid (∀ w1 v1, Below w.heap.size w w1 → Own w1 w.heap.size v1 y → Calls Yba.prog 5 #[v1, .slice a1 n cap] w1 fun e w' => ∃ v', e = .returned v' ∧ Own w' w.heap.size v' (y ++ l) ∧ Below w.heap.size w1 w') := hraw
  have HMOD : Hid (∀ w1, Below w.heap.size w w1 → Calls Yba.prog 7 #[.slice a0 n0 cap0, .slice a1 n cap] w1 fun e w' => ∃ v', e = .returned v' ∧ Own w' w1.heap.size v' (y ++ l) ∧ Below w1.heap.size w1 w') := hmod
  have HL : Hid (0 < (y ++ l).length) := hl
  clear hraw hmod hl hy
  go_enter Yba.func3, Yba.ntmps3
  go_wp2_with (go_at_call 6; refine HCP.mono ?_; rintro e w1 ⟨v1, rfl, ho1, hb1⟩)
  have HO1 : Hid (Own w1 w.heap.size v1 y) := ho1
  have HB1 : Hid (Below w.heap.size w w1) := hb1
  clear ho1 hb1 HCP
  go_wp2_with (go_at_call 5; refine (HRAW.out w1 v1 HB1.out HO1.out).mono ?_; rintro e w2 ⟨v2, rfl, ho2, hb2⟩)
  have HO2 : Hid (Own w2 w.heap.size v2 (y ++ l)) := ho2
  have HB2 : Hid (Below w.heap.size w w2) := HB1.out.trans hb2
  clear ho2 hb2 HO1 HB1
  go_wp2_with (go_at_call 7; refine (HMOD.out w2 HB2.out).mono ?_; rintro e w3 ⟨v3, rfl, ho3, hb3⟩)
  have HO3 : Hid (Own w3 w2.heap.size v3 (y ++ l)) := ho3
  have HO4 : Hid (Own w3 w.heap.size v2 (y ++ l)) := HO2.out.kept hb3 (fun k hk => (HO2.out.lt k hk).2)
  have HB3 : Hid (Below w.heap.size w w3) := HB2.out.trans (hb3.mono HB2.out.size)
  clear ho3 hb3
  go_wp2_with (go_at_call 8; refine (equal_same w3 w.heap.size w2.heap.size v2 v3 (y ++ l) HL.out HO4.out HO3.out).mono ?_; rintro e w4 ⟨rfl, rfl⟩)
  go_wp2_with fail
  go_ret
  exact ⟨rfl, HB3.out⟩

theorem walk (w : World) (a0 : Option Addr) (n0 cap0 : Nat) (y : List Int) (a1 : Option Addr) (n cap : Nat) (z : Nat → Int) (hy : y.length = n0) (hnone : a0 = none → n0 = 0 ∧ cap0 = 0)
    (hc : ∀ x, a0 = some x → ∀ i, i < n0 → x.block < w.heap.size ∧ w.cell? (x.add i) = some (.int .u8 (y.getD i 0)))
    (hnc : n ≤ cap) (hcm : cap ≤ 9223372036854775807) (hz : ∀ i, i < n → ∃ b o, a1 = some ⟨b, o, none⟩ ∧ b < w.heap.size ∧ w.cell? ⟨b, o + i, none⟩ = some (.int .u8 (z i))) (hzr : ∀ i, 0 ≤ z i ∧ z i ≤ 255) :
    Calls Yba.prog 3 #[.slice a0 n0 cap0, .slice a1 n cap] w fun e w' => e = .returned (.bool true) ∧ Below w.heap.size w w' := by
  by_cases h0 : 1024 < n0
  · exact far0 a0 n0 cap0 a1 n cap w h0
  by_cases h1 : 1024 < n
  · exact far1 a0 n0 cap0 a1 n cap w h0 h1
  have hc1 : ∀ i, i < n0 → ∃ x, a0 = some x ∧ x.block < w.heap.size := by
    intro i hi
    cases a0 with
    | none => have := (hnone rfl).1; omega
    | some x => exact ⟨x, rfl, (hc x rfl i hi).1⟩
  have hk : ∀ w1, Below w.heap.size w w1 → ∀ ad, a0 = some ad → ∀ j, j < n0 → ad.block < w1.heap.size ∧ w1.cell? (ad.add j) = some (.int .u8 (y.getD j 0)) := by
    intro w1 hb ad had j hj
    obtain ⟨q1, q2⟩ := hc ad had j hj
    exact ⟨Nat.lt_of_lt_of_le q1 hb.size, (hb.cell (by unfold Addr.add; split <;> exact q1)).trans q2⟩
  by_cases hn : n = 0
  · subst hn
    refine near w a0 n0 cap0 y a1 0 cap [110, 117, 108, 108] h0 h1 (by simp) hy hc1 (fun x hx i hi => (hc x hx i hi).2) ?_ ?_
    · intro w1 v1 hb ho
      exact raw0 w1 w.heap.size v1 y a1 cap ho (by omega) hb.size
    · intro w1 hb
      exact model0 w1 a0 n0 cap0 y a1 cap hy (by omega) hnone (hk w1 hb)
  · obtain ⟨b, o, rfl, hbw, _⟩ := hz 0 (by omega)
    have hz' : ∀ w1, Below w.heap.size w w1 → ∀ i, i < n → w1.cell? ⟨b, o + i, none⟩ = some (.int .u8 (z i)) := by
      intro w1 hb i hi
      obtain ⟨b', o', e, _, q⟩ := hz i hi
      cases e
      exact (hb.cell (p := ⟨b, o + i, none⟩) hbw).trans q
    have hpos : 0 < (esc z n 0).length := by
      rw [esc_step z n 0 (by omega)]
      repeat' split
      all_goals simp
    refine near w a0 n0 cap0 y (some ⟨b, o, none⟩) n cap (esc z n 0) h0 h1 (by simp; omega) hy hc1 (fun x hx i hi => (hc x hx i hi).2) ?_ ?_
    · intro w1 v1 hb ho
      exact rawN w1 w.heap.size v1 y b o n cap z ho (by omega) hb.size (by omega) (by omega) hnc hcm hbw (hz' w1 hb) hzr
    · intro w1 hb
      exact modelN w1 a0 n0 cap0 y b o n cap z hy (by omega) hnone (hk w1 hb) (by omega) (by omega) (Nat.lt_of_lt_of_le hbw hb.size) (hz' w1 hb) hzr
end M
end Go.Proofs.Ybulkagca
