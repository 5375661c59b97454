/- THE CONTRACT OF trimGhosts (function 13): the loop that drops ghosts, and the plain function that it computes. -/
import Derived.Test.YbulkagbmTrimDrop
import Derived.Deep.LoopGhost
namespace Go.Proofs.Ybulkagbm
open Go.RowKit
namespace Trim

/-! ### The plain function -/
def sumTo (f : Nat → Nat) : Nat → Nat
  | 0 => 0
  | n + 1 => sumTo f n + f n
def tot2 (f g : Nat → Nat) (p : Nat × Nat) : Nat := sumTo f p.1 + sumTo g p.2
def overB (held mx : Int) (f g : Nat → Nat) (p : Nat × Nat) : Bool := decide (held < (p.1 : Int) + p.2) || (decide (0 < mx) && decide (mx < (tot2 f g p : Nat)))
def stepP (p : Nat × Nat) : Nat × Nat := if p.2 < p.1 then (p.1 - 1, p.2) else (p.1, p.2 - 1)
def trimR (held mx : Int) (f g : Nat → Nat) : Nat → Nat × Nat → Nat × Nat
  | 0, p => p
  | t + 1, p => if overB held mx f g p then trimR held mx f g t (stepP p) else p
/-- From p on the loop ends at this pair. -/
def ends (held mx : Int) (f g : Nat → Nat) (p : Nat × Nat) : Nat × Nat := trimR held mx f g (p.1 + p.2) p

theorem over_pos {held mx : Int} {f g : Nat → Nat} {p : Nat × Nat} (hh : 0 ≤ held) (h : overB held mx f g p = true) : 0 < p.1 + p.2 := by
  rcases Nat.eq_zero_or_pos (p.1 + p.2) with h0 | h0
  · have h1 : p.1 = 0 := by omega
    have h2 : p.2 = 0 := by omega
    simp [overB, tot2, sumTo, h1, h2] at h
    omega
  · exact h0
theorem ends_over {held mx : Int} {f g : Nat → Nat} {p : Nat × Nat} (hh : 0 ≤ held) (h : overB held mx f g p = true) : ends held mx f g p = ends held mx f g (stepP p) := by
  have hp := over_pos hh h
  obtain ⟨t, ht⟩ : ∃ t, p.1 + p.2 = t + 1 := ⟨p.1 + p.2 - 1, by omega⟩
  have hs : (stepP p).1 + (stepP p).2 = t := by unfold stepP; split <;> simp <;> omega
  rw [ends, ends, ht, hs, trimR, if_pos h]
theorem ends_done {held mx : Int} {f g : Nat → Nat} {p : Nat × Nat} (h : overB held mx f g p = false) : ends held mx f g p = p := by
  unfold ends
  cases hq : p.1 + p.2 with
  | zero => rfl
  | succ t => rw [trimR, h]; rfl

def lenF (L : Lay) (r i : Nat) : Nat := (L.key r i).size
def totL (L : Lay) (n : Nat → Nat) : Nat := tot2 (lenF L 3) (lenF L 4) (n 3, n 4)
theorem sumTo_le (f : Nat → Nat) (c n : Nat) (h : ∀ i, i < n → f i ≤ c) : sumTo f n ≤ c * n := by
  induction n with
  | zero => simp [sumTo]
  | succ n ih =>
    have := ih (fun i hi => h i (by omega))
    have := h n (by omega)
    rw [sumTo, Nat.mul_succ]; omega
theorem totL_le (L : Lay) (k n : Nat → Nat) (hA : Apart L k) (hk : ∀ r, R34 r → n r ≤ k r) : totL L n ≤ 26624 := by
  have h3 := hk 3 (Or.inl rfl)
  have h4 := hk 4 (Or.inr rfl)
  have a3 := hA.k1
  have a4 := hA.k2
  have s3 := sumTo_le (lenF L 3) 13 (n 3) (fun i hi => hA.size 3 i (Or.inl rfl) (by omega))
  have s4 := sumTo_le (lenF L 4) 13 (n 4) (fun i hi => hA.size 4 i (Or.inr rfl) (by omega))
  unfold totL tot2
  simp only
  omega
theorem totL_drop (L : Lay) (n : Nat → Nat) (r m : Nat) (hr : R34 r) (hm : n r = m + 1) : (totL L n : Int) - (L.key r m).size = totL L (upd n r m) := by
  rcases hr with rfl | rfl
  · simp [totL, tot2, upd, hm, sumTo, lenF]; omega
  · simp [totL, tot2, upd, hm, sumTo, lenF]; omega
theorem step_drop (n : Nat → Nat) (h : n 4 < n 3) (m : Nat) (hm : n 3 = m + 1) : (upd n 3 m 3, upd n 3 m 4) = stepP (n 3, n 4) := by
  simp [upd, stepP, hm]
  omega
theorem step_drop' (n : Nat → Nat) (h : ¬ n 4 < n 3) (m : Nat) (hm : n 4 = m + 1) : (upd n 4 m 3, upd n 4 m 4) = stepP (n 3, n 4) := by
  simp [upd, stepP, hm]
  omega

theorem kvs_length (L : Lay) (n : Nat → Nat) : (kvs L n).length = n 3 + n 4 := by simp [kvs]

theorem back_of (L : Lay) (w : World) (na N : Nat) (k n : Nat → Nat) (gb mx : Int) (r t : Nat) (hA : Apart L k) (hS : St L w na N k n gb mx) (hr : R34 r) (ht : n r = t + 1) :
    Calls Yba.prog 14 #[.pointer (some ⟨L.ob, 3 * r + 1, none⟩)] w fun e w' => e = .returned (.pointer (some ⟨L.e r t, 0, none⟩)) ∧ ∃ n, w' = w.drewN n := by
  obtain ⟨ho, hl, ⟨cap, xs, ⟨fr, hn⟩, hX, hC⟩, hM, hE, hK⟩ := hS
  have hCr := hC r hr
  rw [ht] at hCr
  have hr5 : r < 5 := by rcases hr with rfl | rfl <;> omega
  have hb5 : 5 ≤ L.b r := by rcases hr with rfl | rfl; (have := hA.b3; omega); (have := hA.b4; omega)
  have hlt := lt_of_get (hCr.ptr t (by omega))
  rw [hX.1] at hlt
  refine back_some L.ob (3 * r + 1) L.nb na N cap r (L.b r + t) ⟨L.e r t, 0, none⟩ w ((cell_block ho _).trans (by rcases hr with rfl | rfl <;> rfl)) ((cell_block ho _).trans (by rcases hr with rfl | rfl <;> rfl)) (cell_block hn 0) (by omega) (by omega) (by omega) (hX.cell ?_) (hX.cell (hCr.ptr t (by omega)))
  have := hCr.prev
  rwa [show back r (L.b r) (t + 1) = L.b r + t by unfold back; rw [if_neg (by omega)]; omega] at this
theorem back_of_none (L : Lay) (w : World) (na N : Nat) (k n : Nat → Nat) (gb mx : Int) (r : Nat) (hS : St L w na N k n gb mx) (hr : R34 r) (ht : n r = 0) :
    Calls Yba.prog 14 #[.pointer (some ⟨L.ob, 3 * r + 1, none⟩)] w fun e w' => e = .returned (.pointer none) ∧ ∃ n, w' = w.drewN n := by
  obtain ⟨ho, hl, ⟨cap, xs, ⟨fr, hn⟩, hX, hC⟩, hM, hE, hK⟩ := hS
  have hCr := hC r hr
  rw [ht] at hCr
  have hlt := lt_of_get hCr.prev
  rw [hX.1] at hlt
  refine back_none L.ob (3 * r + 1) L.nb na N cap r w ((cell_block ho _).trans (by rcases hr with rfl | rfl <;> rfl)) ((cell_block ho _).trans (by rcases hr with rfl | rfl <;> rfl)) (cell_block hn 0) (by omega) (hX.cell hCr.prev)

set_option maxHeartbeats 3200000 in
theorem trimGhosts (L : Lay) (w : World) (na N : Nat) (k n : Nat → Nat) (mx : Int) (hA : Apart L k) (hS : St L w na N k n (totL L n) mx) (b1 : 0 ≤ L.x1 ∧ L.x1 ≤ 255) (b2 : 0 ≤ L.x2 ∧ L.x2 ≤ 255) (b3 : 0 ≤ L.x3 ∧ L.x3 ≤ 255) :
    Calls Yba.prog 13 #[.pointer (some ⟨L.ob, 0, none⟩)] w fun e w' => e = .returned (.tuple #[]) ∧ ∃ n', St L w' na N k n' (totL L n') mx ∧ (n' 3, n' 4) = ends (L.x1 + L.x2 + L.x3) mx (lenF L 3) (lenF L 4) (n 3, n 4) ∧ Beside (touch L na k) w w' := by
  have HA : Hid (Apart L k) := hA
  have HS : Hid (St L w na N k n (totL L n) mx) := hS
  clear hA hS
  go_enter Yba.func13, Yba.ntmps13
  go_wp2_with fail
  go_loopg [2] (n 3 + n 4) (fun g v wr => ∃ n', g = n' 3 + n' 4 ∧ Hid (St L wr na N k n' (totL L n') mx ∧ ends (L.x1 + L.x2 + L.x3) mx (lenF L 3) (lenF L 4) (n' 3, n' 4) = ends (L.x1 + L.x2 + L.x3) mx (lenF L 3) (lenF L 4) (n 3, n 4) ∧ Beside (touch L na k) w wr))
  case atStart => exact ⟨n, rfl, HS.out, rfl, Beside.refl _ _⟩
  case round =>
    obtain ⟨m, rfl, HR⟩ := hrel
    have c3 : wr.cell? ⟨L.ob, 3, none⟩ = some (.int .i64 L.x1) := cell_block HR.out.1.ho 3
    have c6 : wr.cell? ⟨L.ob, 6, none⟩ = some (.int .i64 L.x2) := cell_block HR.out.1.ho 6
    have c9 : wr.cell? ⟨L.ob, 9, none⟩ = some (.int .i64 L.x3) := cell_block HR.out.1.ho 9
    have c12 : wr.cell? ⟨L.ob, 12, none⟩ = some (.int .i64 (m 3)) := cell_block HR.out.1.ho 12
    have c15 : wr.cell? ⟨L.ob, 15, none⟩ = some (.int .i64 (m 4)) := cell_block HR.out.1.ho 15
    have c16 : wr.cell? ⟨L.ob, 16, none⟩ = some (.map (some L.mb)) := cell_block HR.out.1.ho 16
    have c17 : wr.cell? ⟨L.ob, 17, none⟩ = some (.int .i64 (totL L m)) := cell_block HR.out.1.ho 17
    have c18 : wr.cell? ⟨L.ob, 18, none⟩ = some (.int .i64 mx) := cell_block HR.out.1.ho 18
    have hlen : ∀ q ty, (Builtin.len_ #[38] ty #[.map (some L.mb)]).run Yba.prog (wr.drewN q) = .ok (.int .i64 ((m 3 : Int) + m 4)) (wr.drewN q) := by
      intro q ty
      have hm : MapIs (wr.drewN q) L.mb (kvs L m) := HR.out.1.hm
      rw [map_len hm ty, kvs_length]
      simp
    have htot := totL_le L k m HA.out HR.out.1.hk
    have hb1 := HA.out.k1
    have hb2 := HA.out.k2
    have hk3 := HR.out.1.hk 3 (Or.inl rfl)
    have hk4 := HR.out.1.hk 4 (Or.inr rfl)
    have hheld : 0 ≤ L.x1 + L.x2 + L.x3 := by omega
    by_cases hov : overB (L.x1 + L.x2 + L.x3) mx (lenF L 3) (lenF L 4) (m 3, m 4) = true
    · have hpos := over_pos hheld hov
      have HE := ends_over hheld hov
      have hcase : (L.x1 + L.x2 + L.x3 < (m 3 : Int) + m 4) ∨ (¬ (L.x1 + L.x2 + L.x3 < (m 3 : Int) + m 4) ∧ 0 < mx ∧ mx < (totL L m : Int)) := by
        simp [overB] at hov
        rcases hov with h | h
        · exact Or.inl h
        · by_cases hq : L.x1 + L.x2 + L.x3 < (m 3 : Int) + m 4
          · exact Or.inl hq
          · exact Or.inr ⟨hq, h.1, h.2⟩
      clear hov
      simp only at hpos
      by_cases hc : m 4 < m 3
      · obtain ⟨t, ht⟩ : ∃ t, m 3 = t + 1 := ⟨m 3 - 1, by omega⟩
        have HB : Hid (∀ q, Calls Yba.prog 14 #[.pointer (some ⟨L.ob, 10, none⟩)] (wr.drewN q) fun e w' => e = .returned (.pointer (some ⟨L.e 3 t, 0, none⟩)) ∧ ∃ n, w' = (wr.drewN q).drewN n) := fun q => back_of L (wr.drewN q) na N k m _ mx 3 t HA.out (HR.out.1.alike rfl) (Or.inl rfl) ht
        have HD : Hid (∀ q, Calls Yba.prog 18 #[.pointer (some ⟨L.ob, 0, none⟩), .pointer (some ⟨L.e 3 t, 0, none⟩)] (wr.drewN q) fun e w' => e = .returned (.tuple #[]) ∧ St L w' na N k (upd m 3 t) (totL L (upd m 3 t)) mx ∧ Beside (touch L na k) (wr.drewN q) w') := by
          intro q
          rw [← totL_drop L m 3 t (Or.inl rfl) ht]
          exact dropGhost L (wr.drewN q) na N k m _ mx 3 t HA.out (HR.out.1.alike rfl) (Or.inl rfl) ht (by omega)
        have HT : Hid (upd m 3 t 3 + upd m 3 t 4 < m 3 + m 4) := by simp [Hid, upd, ht]
        have HE2 : Hid (ends (L.x1 + L.x2 + L.x3) mx (lenF L 3) (lenF L 4) (upd m 3 t 3, upd m 3 t 4) = ends (L.x1 + L.x2 + L.x3) mx (lenF L 3) (lenF L 4) (n 3, n 4)) := by
          rw [step_drop m hc t ht, ← HE]; exact HR.out.2.1
        clear ht HE
        rcases hcase with hA1 | ⟨hA1, hA2, hA3⟩
        all_goals
          go_wp2_with fail
          go_quiet ((go_at_call 17; exact Calls.quiet_of (held _ _ _ _ _ (by exact c3) (by exact c6) (by exact c9) b1 b2 b3)))
          go_wp2_with fail
          go_quiet (fail)
          go_wp2_with fail
          refine (HB.out _).mono ?_
          rintro e w1 ⟨rfl, q1, hw1⟩
          rw [World.drewN_drewN] at hw1
          subst hw1
          go_wp2_with fail
          refine (HD.out _).mono ?_
          rintro e w2 ⟨rfl, hS2, hB2⟩
          go_wp2_with fail
          go_roundg (upd m 3 t 3 + upd m 3 t 4)
          case measure => exact HT.out
          case rel => exact ⟨upd m 3 t, rfl, hS2, HE2.out, HR.out.2.2.trans hB2.undrawn⟩
      · obtain ⟨t, ht⟩ : ∃ t, m 4 = t + 1 := ⟨m 4 - 1, by omega⟩
        have HB : Hid (∀ q, Calls Yba.prog 14 #[.pointer (some ⟨L.ob, 13, none⟩)] (wr.drewN q) fun e w' => e = .returned (.pointer (some ⟨L.e 4 t, 0, none⟩)) ∧ ∃ n, w' = (wr.drewN q).drewN n) := fun q => back_of L (wr.drewN q) na N k m _ mx 4 t HA.out (HR.out.1.alike rfl) (Or.inr rfl) ht
        have HD : Hid (∀ q, Calls Yba.prog 18 #[.pointer (some ⟨L.ob, 0, none⟩), .pointer (some ⟨L.e 4 t, 0, none⟩)] (wr.drewN q) fun e w' => e = .returned (.tuple #[]) ∧ St L w' na N k (upd m 4 t) (totL L (upd m 4 t)) mx ∧ Beside (touch L na k) (wr.drewN q) w') := by
          intro q
          rw [← totL_drop L m 4 t (Or.inr rfl) ht]
          exact dropGhost L (wr.drewN q) na N k m _ mx 4 t HA.out (HR.out.1.alike rfl) (Or.inr rfl) ht (by omega)
        have HT : Hid (upd m 4 t 3 + upd m 4 t 4 < m 3 + m 4) := by simp [Hid, upd, ht]
        have HE2 : Hid (ends (L.x1 + L.x2 + L.x3) mx (lenF L 3) (lenF L 4) (upd m 4 t 3, upd m 4 t 4) = ends (L.x1 + L.x2 + L.x3) mx (lenF L 3) (lenF L 4) (n 3, n 4)) := by
          rw [step_drop' m hc t ht, ← HE]; exact HR.out.2.1
        clear ht HE
        rcases hcase with hA1 | ⟨hA1, hA2, hA3⟩
        all_goals
          go_wp2_with fail
          go_quiet ((go_at_call 17; exact Calls.quiet_of (held _ _ _ _ _ (by exact c3) (by exact c6) (by exact c9) b1 b2 b3)))
          go_wp2_with fail
          go_quiet (fail)
          go_wp2_with fail
          refine (HB.out _).mono ?_
          rintro e w1 ⟨rfl, q1, hw1⟩
          rw [World.drewN_drewN] at hw1
          subst hw1
          go_wp2_with fail
          refine (HD.out _).mono ?_
          rintro e w2 ⟨rfl, hS2, hB2⟩
          go_wp2_with fail
          go_roundg (upd m 4 t 3 + upd m 4 t 4)
          case measure => exact HT.out
          case rel => exact ⟨upd m 4 t, rfl, hS2, HE2.out, HR.out.2.2.trans hB2.undrawn⟩
    · have hov' : overB (L.x1 + L.x2 + L.x3) mx (lenF L 3) (lenF L 4) (m 3, m 4) = false := by simpa using hov
      have HE := ends_done hov'
      have hcase : ¬ (L.x1 + L.x2 + L.x3 < (m 3 : Int) + m 4) ∧ (¬ 0 < mx ∨ (0 < mx ∧ ¬ mx < (totL L m : Int))) := by
        simp [overB] at hov'
        refine ⟨by omega, ?_⟩
        by_cases hq : 0 < mx
        · exact Or.inr ⟨hq, by have := hov'.2 hq; unfold totL; omega⟩
        · exact Or.inl hq
      have HF : Hid (St L wr na N k m (totL L m) mx ∧ (m 3, m 4) = ends (L.x1 + L.x2 + L.x3) mx (lenF L 3) (lenF L 4) (n 3, n 4) ∧ Beside (touch L na k) w wr) := ⟨HR.out.1, by rw [← HR.out.2.1]; exact HE.symm, HR.out.2.2⟩
      clear hov hov' HE HR
      obtain ⟨hA1, hA2 | ⟨hA2, hA3⟩⟩ := hcase
      · have hd1 : decide (L.x1 + L.x2 + L.x3 < (m 3 : Int) + m 4) = false := by simpa using hA1
        have hd2 : decide (0 < mx) = false := by simpa using hA2
        go_wp2_with fail
        go_quiet ((go_at_call 17; exact Calls.quiet_of (held _ _ _ _ _ (by exact c3) (by exact c6) (by exact c9) b1 b2 b3)))
        go_wp2_with fail
        go_end0
        exact ⟨rfl, m, HF.out.1.alike rfl, HF.out.2.1, HF.out.2.2.drewN _⟩
      · have hd1 : decide (L.x1 + L.x2 + L.x3 < (m 3 : Int) + m 4) = false := by simpa using hA1
        have hd3 : decide (mx < (totL L m : Int)) = false := by simpa using hA3
        go_wp2_with fail
        go_quiet ((go_at_call 17; exact Calls.quiet_of (held _ _ _ _ _ (by exact c3) (by exact c6) (by exact c9) b1 b2 b3)))
        go_wp2_with fail
        go_end0
        exact ⟨rfl, m, HF.out.1.alike rfl, HF.out.2.1, HF.out.2.2.drewN _⟩
end Trim
end Go.Proofs.Ybulkagbm
