/- THE STATE BEHIND trimGhosts, AND WHAT THE LAW READS OFF IT. -/
import Derived.Test.YbulkagbmTrimStart
import Derived.LaidEql
namespace Go.Proofs.Ybulkagbm
open Go.RowKit
namespace Trim

structure Fin (c : Cfg) (w w' : World) (eW eM : Nat → Nat) (na D p q : Nat) (mx : Int) : Prop where
  st : ∃ n, n 3 = p ∧ n 4 = q ∧ St (LL c eW eM) w' na (5 + c.l3 + c.l4) (kn c.l3 c.l4) n ((tot2 (lenW c) (lenM c) (p, q) : Nat) : Int) mx
  ap : Apart (LL c eW eM) (kn c.l3 c.l4)
  be : Below c.B w w'
  r5 : w'.rowIs (c.B + 5) 39 c.l3 (entRow eW c.l3)
  r6 : w'.rowIs (c.B + 6) 2 c.l3 (lenRow (lenW c) c.l3)
  r7 : w'.rowIs D 39 c.l4 (entRow eM c.l4)
  r8 : w'.rowIs (D + 1) 2 c.l4 (lenRow (lenM c) c.l4)

theorem Fin.drewN {c : Cfg} {w w' : World} {eW eM : Nat → Nat} {na D p q : Nat} {mx : Int} (h : Fin c w w' eW eM na D p q mx) (m : Nat) : Fin c w (w'.drewN m) eW eM na D p q mx := by
  obtain ⟨n, h1, h2, hS⟩ := h.st
  exact ⟨⟨n, h1, h2, hS.alike rfl⟩, h.ap, ⟨h.be.os, h.be.tape, h.be.output, h.be.size, h.be.block⟩, h.r5, h.r6, h.r7, h.r8⟩

theorem row_fin {c : Cfg} {w0 wr w2 w' : World} {i j : Nat} {eW eM : Nat → Nat} {na b m : Nat} {t : TypeId} {f : Nat → Value} (h : Built c w0 wr i j eW eM na) (hs : Beside (fun x => x = c.B) wr w2) (hB : Beside (touch (LL c eW eM) na (kn i j)) w2 w') (hr : wr.rowIs b t m f) (ht : t = 39 ∨ t = 2) : w'.rowIs b t m f := by
  obtain ⟨cc, hb, hcc⟩ := hr
  obtain ⟨a1, a2, a3, a4, a5, a6⟩ := h.off hb ht
  refine World.rowIs.of_block ⟨cc, hb, hcc⟩ ((hB.block b ?_).trans (hs.block b (Ne.symm a1)))
  rintro (h1 | h1 | h1 | h1 | ⟨r, x, hr, hx, h1⟩)
  · exact a1 h1.symm
  · exact a2 h1.symm
  · exact a5 h1.symm
  · exact a4 h1.symm
  · exact a6 r hr x hx h1.symm

theorem trimLaw (c : Cfg) (w wr : World) (eW eM : Nat → Nat) (na D : Nat) (tot mx : Int) (h : Built c w wr c.l3 c.l4 eW eM na) (htot : tot = ((sumTo (lenW c) c.l3 + sumTo (lenM c) c.l4 : Nat) : Int))
    (r5 : wr.rowIs (c.B + 5) 39 c.l3 (entRow eW c.l3)) (r6 : wr.rowIs (c.B + 6) 2 c.l3 (lenRow (lenW c) c.l3)) (r7 : wr.rowIs D 39 c.l4 (entRow eM c.l4)) (r8 : wr.rowIs (D + 1) 2 c.l4 (lenRow (lenM c) c.l4))
    (b1 : 0 ≤ c.x1 ∧ c.x1 ≤ 255) (b2 : 0 ≤ c.x2 ∧ c.x2 ≤ 255) (b3 : 0 ≤ c.x3 ∧ c.x3 ≤ 255) :
    Calls Yba.prog 13 #[.pointer (some ⟨c.B, 0, none⟩)] ((wr.setCell ⟨c.B, 17, none⟩ (.int .i64 tot)).setCell ⟨c.B, 18, none⟩ (.int .i64 mx)) fun e w' => e = .returned (.tuple #[]) ∧
      ∃ p q, (p, q) = ends (c.x1 + c.x2 + c.x3) mx (lenW c) (lenM c) (c.l3, c.l4) ∧ Fin c w w' eW eM na D p q mx := by
  have hA : Apart (LL c eW eM) (kn c.l3 c.l4) := apart_LL c eW eM _ _ h.iW h.iM h.iX (Nat.le_refl _) h.l3 h.l4
  obtain ⟨w2, hw2⟩ : ∃ w2, w2 = (wr.setCell ⟨c.B, 17, none⟩ (.int .i64 tot)).setCell ⟨c.B, 18, none⟩ (.int .i64 mx) := ⟨_, rfl⟩
  have hs : Beside (fun x => x = c.B) wr w2 := by
    rw [hw2]
    exact Beside.setCell (S := fun x => x = c.B) (Beside.setCell (S := fun x => x = c.B) (Beside.refl _ _) ⟨c.B, 17, none⟩ rfl _) ⟨c.B, 18, none⟩ rfl _
  have htl : totL (LL c eW eM) (kn c.l3 c.l4) = sumTo (lenW c) c.l3 + sumTo (lenM c) c.l4 := rfl
  have ho2 : w2.heap[c.B]? = some (.cells (oC (LL c eW eM) (kn c.l3 c.l4) (totL (LL c eW eM) (kn c.l3 c.l4) : Nat) mx) 42 (0, 0)) := by
    rw [hw2, htl, ← htot]
    exact setCell_block (setCell_block h.st.ho 17 (.int .i64 tot)) 18 (.int .i64 mx)
  have o5 := h.off r5.choose_spec.1 (Or.inl rfl)
  have ne1 : ∀ {b : Nat} {cc : Array Value} {t : TypeId}, wr.heap[b]? = some (.cells cc t (0, 0)) → t ≠ 42 → ¬ b = c.B := fun hb ht => ne_type hb h.st.ho ht
  obtain ⟨cap, xs, ⟨fr, hn⟩, hX, hC⟩ := h.st.hn
  obtain ⟨cur, hna⟩ := h.naBlock
  have hS2 : St (LL c eW eM) w2 na (5 + c.l3 + c.l4) (kn c.l3 c.l4) (kn c.l3 c.l4) (totL (LL c eW eM) (kn c.l3 c.l4) : Nat) mx :=
    ⟨ho2, (hs.block _ (ne1 h.st.hl (by decide))).trans h.st.hl, ⟨cap, xs, ⟨fr, (hs.block _ (ne1 hn (by decide))).trans hn⟩, hX.of_block (hs.block _ (ne1 hna (by decide))), hC⟩, h.st.hm.of_block (hs.block _ (Ne.symm (ne_map h.st.ho h.st.hm))),
      fun r hr i hi => (hs.block _ (ne1 (h.st.he r hr i hi) (by decide))).trans (h.st.he r hr i hi), h.st.hk⟩
  rw [← hw2]
  refine (trimGhosts (LL c eW eM) w2 na _ _ _ mx hA hS2 b1 b2 b3).mono ?_
  rintro e w' ⟨he, n, hS, hE, hB⟩
  refine ⟨he, n 3, n 4, hE, ⟨⟨n, rfl, rfl, hS⟩, hA, ?_, ?_, ?_, ?_, ?_⟩⟩
  · refine (hs.toG.below h.be h.sz (fun x _ hx => by omega)).trans (hB.below ?_)
    rintro x (rfl | rfl | rfl | rfl | ⟨r, i, hr, hi, rfl⟩)
    · exact Nat.le_refl _
    · exact Nat.le_succ _
    · exact h.na
    · show c.B ≤ c.B + 4; omega
    · rcases hr with rfl | rfl
      · exact h.hW i hi
      · exact h.hM i hi
  · exact row_fin h hs hB r5 (Or.inl rfl)
  · exact row_fin h hs hB r6 (Or.inr rfl)
  · exact row_fin h hs hB r7 (Or.inl rfl)
  · exact row_fin h hs hB r8 (Or.inr rfl)

section
variable {c : Cfg} {w w' : World} {eW eM : Nat → Nat} {na D p q : Nat} {mx : Int}

theorem Fin.cells (h : Fin c w w' eW eM na D p q mx) : w'.cell? ⟨c.B, 3, none⟩ = some (.int .i64 c.x1) ∧ w'.cell? ⟨c.B, 6, none⟩ = some (.int .i64 c.x2) ∧ w'.cell? ⟨c.B, 9, none⟩ = some (.int .i64 c.x3) ∧
    w'.cell? ⟨c.B, 12, none⟩ = some (.int .i64 p) ∧ w'.cell? ⟨c.B, 15, none⟩ = some (.int .i64 q) ∧ w'.cell? ⟨c.B, 16, none⟩ = some (.map (some (c.B + 4))) ∧
    w'.cell? ⟨c.B, 17, none⟩ = some (.int .i64 ((tot2 (lenW c) (lenM c) (p, q) : Nat) : Int)) ∧ w'.cell? ⟨c.B, 18, none⟩ = some (.int .i64 mx) := by
  obtain ⟨n, rfl, rfl, hS⟩ := h.st
  exact ⟨cell_block hS.ho 3, cell_block hS.ho 6, cell_block hS.ho 9, cell_block hS.ho 12, cell_block hS.ho 15, cell_block hS.ho 16, cell_block hS.ho 17, cell_block hS.ho 18⟩
theorem Fin.len (h : Fin c w w' eW eM na D p q mx) (ty : TypeId) : (Builtin.len_ #[38] ty #[.map (some (c.B + 4))]).run Yba.prog w' = .ok (.int .i64 ((p : Int) + q)) w' := by
  obtain ⟨n, rfl, rfl, hS⟩ := h.st
  have := map_len hS.hm ty
  rw [kvs_length, show ((n 3 + n 4 : Nat) : Int) = (n 3 : Int) + n 4 by omega] at this
  exact this
theorem Fin.le (h : Fin c w w' eW eM na D p q mx) : p ≤ c.l3 ∧ q ≤ c.l4 := by
  obtain ⟨n, rfl, rfl, hS⟩ := h.st
  exact ⟨hS.hk 3 (Or.inl rfl), hS.hk 4 (Or.inr rfl)⟩
theorem split_at {α : Type} (f : Nat → α) (m i : Nat) (h : i < m) : (List.range m).map f = (List.range i).map f ++ f i :: ((List.range (m - i - 1)).map (fun x => f (i + 1 + x))) := by
  apply List.ext_getElem?
  intro t
  rw [List.getElem?_append]
  by_cases h1 : t < i
  · simp [h1, show t < m by omega]
  · by_cases h2 : t = i
    · subst h2; simp [h]
    · obtain ⟨s, rfl⟩ : ∃ s, t = i + 1 + s := ⟨t - i - 1, by omega⟩
      by_cases h3 : i + 1 + s < m
      · simp [show ¬ i + 1 + s < i by omega, h3, show i + 1 + s - i = s + 1 by omega, show s < m - i - 1 by omega]
      · simp [show ¬ i + 1 + s < i by omega, h3, show i + 1 + s - i = s + 1 by omega, show ¬ s < m - i - 1 by omega]
theorem kvs_at (L : Lay) (k n : Nat → Nat) (hA : Apart L k) (hk : ∀ r, R34 r → n r ≤ k r) (r i : Nat) (hr : R34 r) (hi : i < n r) : ∃ pre post, kvs L n = pre ++ (L.key r i, L.e r i) :: post ∧ ∀ x ∈ pre, x.1 ≠ L.key r i := by
  have hk3 := hk 3 (Or.inl rfl)
  have hk4 := hk 4 (Or.inr rfl)
  have ne : ∀ s, R34 s → ∀ x, x < n s → (s ≠ r ∨ x ≠ i) → L.key s x ≠ L.key r i := by
    intro s hs x hx hne h
    have := hA.keys s r x i hs hr (by have := hk s hs; omega) (by have := hk r hr; omega) h
    omega
  rcases hr with rfl | rfl
  · refine ⟨(List.range i).map (fun i => (L.key 3 i, L.e 3 i)), _, by rw [kvs, split_at _ (n 3) i hi, List.append_assoc]; rfl, ?_⟩
    intro x hx
    obtain ⟨y, hy, rfl⟩ := List.mem_map.1 hx
    have hy := List.mem_range.1 hy
    exact ne 3 (Or.inl rfl) y (by omega) (Or.inr (by omega))
  · refine ⟨(List.range (n 3)).map (fun i => (L.key 3 i, L.e 3 i)) ++ (List.range i).map (fun i => (L.key 4 i, L.e 4 i)), _, by rw [kvs, split_at _ (n 4) i hi, ← List.append_assoc], ?_⟩
    intro x hx
    rcases List.mem_append.1 hx with hx | hx
    · obtain ⟨y, hy, rfl⟩ := List.mem_map.1 hx
      exact ne 3 (Or.inl rfl) y (List.mem_range.1 hy) (Or.inl (by omega))
    · obtain ⟨y, hy, rfl⟩ := List.mem_map.1 hx
      have hy := List.mem_range.1 hy
      exact ne 4 (Or.inr rfl) y (by omega) (Or.inr (by omega))
theorem kvs_out (L : Lay) (k n : Nat → Nat) (hA : Apart L k) (hk : ∀ r, R34 r → n r ≤ k r) (r i : Nat) (hr : R34 r) (hi : ¬ i < n r) (hik : i < k r) : ∀ x ∈ kvs L n, x.1 ≠ L.key r i := by
  have ne : ∀ s, R34 s → ∀ x, x < n s → L.key s x ≠ L.key r i := by
    intro s hs x hx h
    obtain ⟨rfl, rfl⟩ := hA.keys s r x i hs hr (by have := hk s hs; omega) hik h
    exact hi hx
  intro x hx
  rcases List.mem_append.1 hx with hx | hx
  · obtain ⟨y, hy, rfl⟩ := List.mem_map.1 hx
    exact ne 3 (Or.inl rfl) y (List.mem_range.1 hy)
  · obtain ⟨y, hy, rfl⟩ := List.mem_map.1 hx
    exact ne 4 (Or.inr rfl) y (List.mem_range.1 hy)

theorem Fin.look (h : Fin c w w' eW eM na D p q mx) (r i : Nat) (hr : R34 r) (hi : i < (kn p q) r) :
    (Instr.lookup 38 (.map (some (c.B + 4))) (.string ((LL c eW eM).key r i)) true).run Yba.prog w' = .ok (.tuple #[.pointer (some ⟨(LL c eW eM).e r i, 0, none⟩), .bool true]) w' := by
  obtain ⟨n, rfl, rfl, hS⟩ := h.st
  have hi' : i < n r := by rcases hr with rfl | rfl <;> exact hi
  obtain ⟨pre, post, e1, e2⟩ := kvs_at (LL c eW eM) (kn c.l3 c.l4) n h.ap hS.hk r i hr hi'
  exact map_look_in hS.hm e1 e2
theorem Fin.miss (h : Fin c w w' eW eM na D p q mx) (r i : Nat) (hr : R34 r) (hi : ¬ i < (kn p q) r) (hik : i < kn c.l3 c.l4 r) :
    (Instr.lookup 38 (.map (some (c.B + 4))) (.string ((LL c eW eM).key r i)) true).run Yba.prog w' = .ok (.tuple #[.pointer none, .bool false]) w' := by
  obtain ⟨n, rfl, rfl, hS⟩ := h.st
  have hi' : ¬ i < n r := by rcases hr with rfl | rfl <;> exact hi
  exact map_look_out hS.hm (kvs_out (LL c eW eM) (kn c.l3 c.l4) n h.ap hS.hk r i hr hi' hik)
theorem Fin.ent (h : Fin c w w' eW eM na D p q mx) (r i : Nat) (hr : R34 r) (hik : i < kn c.l3 c.l4 r) :
    w'.cell? ⟨(LL c eW eM).e r i, 0, none⟩ = some (.string ((LL c eW eM).key r i)) ∧ (¬ i < (kn p q) r → w'.cell? ⟨(LL c eW eM).e r i, 4, none⟩ = some (.int .i32 0)) := by
  obtain ⟨n, rfl, rfl, hS⟩ := h.st
  have hE := hS.he r hr i hik
  refine ⟨cell_block hE 0, fun hi => ?_⟩
  have hi' : ¬ i < n r := by rcases hr with rfl | rfl <;> exact hi
  rw [if_neg hi'] at hE
  exact cell_block hE 4
theorem Fin.back (h : Fin c w w' eW eM na D p q mx) (r t : Nat) (hr : R34 r) (ht : kn p q r = t + 1) :
    Calls Yba.prog 14 #[.pointer (some ⟨c.B, 3 * r + 1, none⟩)] w' fun e w2 => e = .returned (.pointer (some ⟨(LL c eW eM).e r t, 0, none⟩)) ∧ ∃ n, w2 = w'.drewN n := by
  obtain ⟨n, rfl, rfl, hS⟩ := h.st
  exact back_of (LL c eW eM) w' na _ _ n _ mx r t h.ap hS hr (by rcases hr with rfl | rfl <;> exact ht)
theorem Fin.backNone (h : Fin c w w' eW eM na D p q mx) (r : Nat) (hr : R34 r) (ht : kn p q r = 0) :
    Calls Yba.prog 14 #[.pointer (some ⟨c.B, 3 * r + 1, none⟩)] w' fun e w2 => e = .returned (.pointer none) ∧ ∃ n, w2 = w'.drewN n := by
  obtain ⟨n, rfl, rfl, hS⟩ := h.st
  exact back_of_none (LL c eW eM) w' na _ _ n _ mx r hS hr (by rcases hr with rfl | rfl <;> exact ht)
end

/-! ### The law's own loop -/
theorem over_case {x mx : Int} {f g : Nat → Nat} {u v : Nat} (h : overB x mx f g (u, v) = true) : (x < (u : Int) + v) ∨ (¬ (x < (u : Int) + v) ∧ 0 < mx ∧ mx < (sumTo f u : Int) + (sumTo g v : Int)) := by
  by_cases hq : x < (u : Int) + v
  · exact Or.inl hq
  · simp only [overB, tot2, Bool.or_eq_true, Bool.and_eq_true, decide_eq_true_eq] at h
    rcases h with h | h
    · exact absurd h hq
    · exact Or.inr ⟨hq, h.1, by have h2 : mx < ((sumTo f u + sumTo g v : Nat) : Int) := of_decide_eq_true h.2; omega⟩
theorem under_case {x mx : Int} {f g : Nat → Nat} {u v : Nat} (h : ¬ overB x mx f g (u, v) = true) : ¬ (x < (u : Int) + v) ∧ (¬ 0 < mx ∨ (0 < mx ∧ ¬ mx < (sumTo f u : Int) + (sumTo g v : Int))) := by
  simp only [overB, tot2, Bool.or_eq_true, Bool.and_eq_true, decide_eq_true_eq, not_or, not_and] at h
  refine ⟨h.1, ?_⟩
  by_cases hq : 0 < mx
  · exact Or.inr ⟨hq, by have h2 : ¬ mx < ((sumTo f u + sumTo g v : Nat) : Int) := fun e => h.2 hq (decide_eq_true e); omega⟩
  · exact Or.inl hq
theorem step_w {u v : Nat} (h : v < u) : stepP (u, v) = (u - 1, v) := by simp [stepP, h]
theorem step_m {u v : Nat} (h : ¬ v < u) : stepP (u, v) = (u, v - 1) := by simp [stepP, h]
theorem sumTo_pred (f : Nat → Nat) (u : Nat) (h : 0 < u) : sumTo f u = sumTo f (u - 1) + f (u - 1) := by
  obtain ⟨t, rfl⟩ : ∃ t, u = t + 1 := ⟨u - 1, by omega⟩
  rfl

/-! ### A pointer against itself -/
theorem eqIn_same (d : Nat) (a : Addr) (w : World) : (Op.equalIn (d + 1) 39 (.pointer (some a)) (.pointer (some a))).run Yba.prog w = .ok true w := by
  simp [Op.equalIn, run_underlying Yba.underlying39, run_sameAddr_same]
theorem eq_same (a : Addr) (w : World) : (Op.equal 39 (.pointer (some a)) (.pointer (some a))).run Yba.prog w = .ok true w := eqIn_same 9999 a w
theorem neq_same (a : Addr) (w : World) : (binOp .neq 39 (.pointer (some a)) (.pointer (some a))).run Yba.prog w = .ok (.bool false) w := by
  simp only [binOp]
  simp [eq_same]
end Trim
end Go.Proofs.Ybulkagbm
