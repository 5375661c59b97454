/- THE LAW's OWN CONFIGURATION: which block is what, and what one round of its two building loops does. -/
import Derived.Test.YbulkagbmTrimBuild
import Derived.Deep.OwnRows
namespace Go.Proofs.Ybulkagbm
open Go.RowKit
namespace Trim

theorem linkRound (L L' : Lay) (wr w1 : World) (na N : Nat) (k n : Nat → Nat) (gb mx : Int) (r t : Nat) (hS : St L wr na N k n gb mx) (hr : R34 r) (hn0 : n r = t) (hk0 : k r = t) (h3 : r = 3 → n 4 = 0)
    (hob : L'.ob = L.ob) (hnb : L'.nb = L.nb) (hlb : L'.lb = L.lb) (hmb : L'.mb = L.mb) (h1 : L'.x1 = L.x1) (h2 : L'.x2 = L.x2) (hx3 : L'.x3 = L.x3) (hb : L'.b = L.b) (hkey : L'.key = L.key)
    (he : ∀ s, R34 s → ∀ i, i < k s → L'.e s i = L.e s i) (het : L'.e r t = w1.heap.size) (hA : Apart L' (upd k r (t + 1))) (hN : N = L.b r + t) (hap : ∀ s, R34 s → s ≠ r → L.b s + n s ≤ L.b r ∨ L.b r + t + 1 ≤ L.b s) (hbb : L.b r ≤ 5000)
    (hb1 : Below wr.heap.size wr w1) :
    Calls Yba.prog 12 #[.pointer (some ⟨L.nb, 0, none⟩), .pointer (some ⟨L.ob, 3 * r + 1, none⟩), .pointer (some ⟨w1.heap.size, 0, none⟩)] (w1.alloc (.cells (eC (L.key r t) 0) 55)) fun e w3 => e = .returned (.tuple #[]) ∧
      ∃ na' w4, (∀ q, (Instr.mapUpdate 38 (.map (some L.mb)) (.string (L.key r t)) (.pointer (some ⟨w1.heap.size, 0, none⟩))).run Yba.prog (w3.drewN q) = .ok () (w4.drewN q)) ∧
        St L' w4 na' (N + 1) (upd k r (t + 1)) (upd n r (t + 1)) gb mx ∧ (na' = na ∨ wr.heap.size ≤ na') ∧ BesideG (fun x => x = L.ob ∨ x = L.nb ∨ x = na ∨ x = L.mb) wr w4 ∧
        w3.cell? ⟨L.ob, 16, none⟩ = some (.map (some L.mb)) ∧ w3.cell? ⟨w1.heap.size, 0, none⟩ = some (.string (L.key r t)) ∧ w4.cell? ⟨w1.heap.size, 0, none⟩ = some (.string (L.key r t)) := by
  have g1 : BesideG (fun _ => False) wr (w1.alloc (.cells (eC (L.key r t) 0) 55)) := (belowG hb1).trans ⟨rfl, rfl, rfl, by simp, fun b hlt _ => heap_old _ _ _ hlt⟩
  have hS2 := (hS.grown g1).rename L' hob hnb hlb hmb h1 h2 hx3 hb hkey he
  have hE2 : (w1.alloc (.cells (eC (L.key r t) 0) 55)).heap[L'.e r t]? = some (.cells (eC (L'.key r t) 0) 55 (0, 0)) := by rw [het, hkey]; exact heap_new _ _ _ rfl
  have hc := linkSt L' _ na N k n gb mx r t hS2 hr hn0 hk0 hA (by rw [hb]; exact hN) hE2 (by rw [hb]; exact hap) (by rw [hb]; exact hbb)
  rw [hnb, hob, het] at hc
  refine hc.mono ?_
  rintro e w3 ⟨rfl, na', hC, hna', hG⟩
  have dmb : L'.mb ≠ L'.ob := Ne.symm (ne_map hS2.ho hS2.hm)
  have hmw : MapIs w3 L'.mb (kvs L' n) := by
    refine hS2.hm.of_block (hG.block _ hS2.hm.lt ?_)
    obtain ⟨cap, xs, ⟨fr, hn⟩, hX, _⟩ := hS2.hn
    obtain ⟨cur, hna⟩ : ∃ cur, (w1.alloc (.cells (eC (L.key r t) 0) 55)).heap[na]? = some (.cells cur 49 (0, 0)) := by obtain ⟨_, _, _, cur, h, _⟩ := hX; exact ⟨cur, h⟩
    have z1 := ne_map hS2.ho hS2.hm
    have z2 := ne_map hn hS2.hm
    have z3 := ne_map hna hS2.hm
    have z4 := ne_map hE2 hS2.hm
    omega
  obtain ⟨w4, hrun, hM4, hB4⟩ := map_put_all (b := w1.heap.size) hmw (kvs_fresh L' k n r t hr hk0 hA hS2.hk)
  have hkp : kvs L' (upd n r (t + 1)) = kvs L' n ++ [(L'.key r t, w1.heap.size)] := by rw [kvs_push L' n r t hr hn0 h3, het]
  rw [← hkp] at hM4
  have hC4 : StC L' w4 na' (N + 1) (upd k r (t + 1)) (upd n r (t + 1)) gb mx := by
    have hX3 := hC.hn
    obtain ⟨cap, xs, ⟨fr, hn⟩, hX, _⟩ := hX3
    obtain ⟨cur, hna⟩ : ∃ cur, w3.heap[na']? = some (.cells cur 49 (0, 0)) := by obtain ⟨_, _, _, cur, h, _⟩ := hX; exact ⟨cur, h⟩
    exact hC.kept hB4.toG (ne_map hC.ho hmw) (ne_map hC.hl hmw) (ne_map hn hmw) (ne_map hna hmw) (fun s hs i hi => ne_map (hC.he s hs i hi) hmw)
  have hEt := hC.he r hr t (by simp [upd])
  rw [het, hkey] at hEt
  refine ⟨rfl, na', w4, by rw [← hkey, ← hmb]; exact hrun, hC4.full hM4, ?_, ?_, by rw [← hob, ← hmb]; exact cell_block hC.ho 16, cell_block hEt 0, ?_⟩
  · rcases hna' with h | h
    · exact Or.inl h
    · exact Or.inr (Nat.le_trans g1.size h)
  · refine ⟨hB4.os.trans (hG.os.trans g1.os), hB4.tape.trans (hG.tape.trans g1.tape), hB4.output.trans (hG.output.trans g1.output), Nat.le_trans (Nat.le_trans g1.size hG.size) (Nat.le_of_eq hB4.size.symm), fun b hlt hs => ?_⟩
    have h5 := hb1.size
    rw [hB4.block b (by rw [hmb]; omega), hG.block b (Nat.lt_of_lt_of_le hlt g1.size) (by omega), g1.block b hlt id]
  · exact (World.cell?_of_block (w := w3) (hB4.block _ (ne_map hEt hmw))).trans (cell_block hEt 0)

/-! ### The configuration -/
structure Cfg where
  B : Nat
  x1 : Int
  x2 : Int
  x3 : Int
  l3 : Nat
  l4 : Nat
  pW : Nat → Nat
  pM : Nat → Nat
def LL (c : Cfg) (eW eM : Nat → Nat) : Lay :=
  { ob := c.B, nb := c.B + 1, lb := c.B + 3, mb := c.B + 4, x1 := c.x1, x2 := c.x2, x3 := c.x3, b := fun r => if r = 3 then 5 else 5 + c.l3, e := fun r i => if r = 3 then eW i else eM i,
    key := fun r i => if r = 3 then keyB 119 i (c.pW i) else keyB 109 i (c.pM i) }
def kn (i j : Nat) : Nat → Nat := fun r => if r = 3 then i else if r = 4 then j else 0
theorem upd_kn3 (i j t : Nat) : upd (kn i j) 3 t = kn t j := by funext s; unfold upd kn; by_cases h : s = 3 <;> simp [h]
theorem upd_kn4 (i j t : Nat) : upd (kn i j) 4 t = kn i t := by funext s; unfold upd kn; by_cases h : s = 3 <;> by_cases h' : s = 4 <;> simp [h, h'] <;> omega

theorem apart_LL (c : Cfg) (eW eM : Nat → Nat) (i j : Nat) (h1 : ∀ x y, x < i → y < i → eW x = eW y → x = y) (h2 : ∀ x y, x < j → y < j → eM x = eM y → x = y) (h3 : ∀ x y, x < i → y < j → eW x ≠ eM y) (hi : i ≤ c.l3) (hl : c.l3 ≤ 1024) (hj : j ≤ 1024) : Apart (LL c eW eM) (kn i j) := by
  refine ⟨?_, ?_, rfl, by simp [LL, kn]; omega, ?_, by simp [kn]; omega, by simp [kn]; omega⟩
  · intro r s x y hr hs hx hy h
    rcases hr with rfl | rfl <;> rcases hs with rfl | rfl <;> simp [LL, kn] at *
    · exact h1 x y hx hy h
    · exact h3 x y hx hy h
    · exact h3 y x hy hx h.symm
    · exact h2 x y hx hy h
  · intro r s x y hr hs hx hy h
    rcases hr with rfl | rfl <;> rcases hs with rfl | rfl <;> simp [LL, kn] at *
    · exact (keyB_inj _ _ _ _ _ _ (by omega) (by omega) (by omega) (by omega) h).2
    · have := (keyB_inj _ _ _ _ _ _ (by omega) (by omega) (by omega) (by omega) h).1; omega
    · have := (keyB_inj _ _ _ _ _ _ (by omega) (by omega) (by omega) (by omega) h).1; omega
    · exact (keyB_inj _ _ _ _ _ _ (by omega) (by omega) (by omega) (by omega) h).2
  · intro r x hr hx
    rcases hr with rfl | rfl <;> simp [LL] <;> exact size_keyB _ _ _

/-- What is built: i entries of the window's ghosts, j of main's. -/
structure Built (c : Cfg) (w0 wr : World) (i j : Nat) (eW eM : Nat → Nat) (na : Nat) : Prop where
  st : St (LL c eW eM) wr na (5 + i + j) (kn i j) (kn i j) 0 0
  iW : ∀ x y, x < i → y < i → eW x = eW y → x = y
  iM : ∀ x y, x < j → y < j → eM x = eM y → x = y
  iX : ∀ x y, x < i → y < j → eW x ≠ eM y
  be : Below c.B w0 wr
  na : c.B ≤ na
  hW : ∀ x, x < i → c.B ≤ eW x
  hM : ∀ x, x < j → c.B ≤ eM x
  sz : c.B ≤ wr.heap.size
  li : i ≤ c.l3
  l3 : c.l3 ≤ 1024
  lj : j ≤ c.l4
  l4 : c.l4 ≤ 1024

theorem Built.ltW {c : Cfg} {w0 wr : World} {i j : Nat} {eW eM : Nat → Nat} {na : Nat} (h : Built c w0 wr i j eW eM na) (x : Nat) (hx : x < i) : eW x < wr.heap.size := by
  have := h.st.he 3 (Or.inl rfl) x (by simpa [kn] using hx)
  exact (Array.getElem?_eq_some_iff.1 this).1
theorem Built.ltM {c : Cfg} {w0 wr : World} {i j : Nat} {eW eM : Nat → Nat} {na : Nat} (h : Built c w0 wr i j eW eM na) (x : Nat) (hx : x < j) : eM x < wr.heap.size := by
  have := h.st.he 4 (Or.inr rfl) x (by simpa [kn] using hx)
  exact (Array.getElem?_eq_some_iff.1 this).1

theorem roundW (c : Cfg) (w0 wr w1 : World) (i : Nat) (eW eM : Nat → Nat) (na : Nat) (h : Built c w0 wr i 0 eW eM na) (hi : i < c.l3) (hb1 : Below wr.heap.size wr w1) :
    Calls Yba.prog 12 #[.pointer (some ⟨c.B + 1, 0, none⟩), .pointer (some ⟨c.B, 10, none⟩), .pointer (some ⟨w1.heap.size, 0, none⟩)] (w1.alloc (.cells (eC (keyB 119 i (c.pW i)) 0) 55)) fun e w3 => e = .returned (.tuple #[]) ∧
      ∃ na' w4, (∀ q, (Instr.mapUpdate 38 (.map (some (c.B + 4))) (.string (keyB 119 i (c.pW i))) (.pointer (some ⟨w1.heap.size, 0, none⟩))).run Yba.prog (w3.drewN q) = .ok () (w4.drewN q)) ∧
        Built c w0 w4 (i + 1) 0 (fun x => if x = i then w1.heap.size else eW x) eM na' ∧ BesideG (fun x => x = c.B ∨ x = c.B + 1 ∨ x = na ∨ x = c.B + 4) wr w4 ∧
        w3.cell? ⟨c.B, 16, none⟩ = some (.map (some (c.B + 4))) ∧ w3.cell? ⟨w1.heap.size, 0, none⟩ = some (.string (keyB 119 i (c.pW i))) ∧ w4.cell? ⟨w1.heap.size, 0, none⟩ = some (.string (keyB 119 i (c.pW i))) := by
  have hlt := h.ltW
  have hs1 := hb1.size
  have f1 : ∀ x y, x < i + 1 → y < i + 1 → (if x = i then w1.heap.size else eW x) = (if y = i then w1.heap.size else eW y) → x = y := by
    intro x y hx hy he
    by_cases h1 : x = i <;> by_cases h2 : y = i <;> simp [h1, h2] at he ⊢
    · have := hlt y (by omega); omega
    · have := hlt x (by omega); omega
    · exact h.iW x y (by omega) (by omega) he
  have hA : Apart (LL c (fun x => if x = i then w1.heap.size else eW x) eM) (kn (i + 1) 0) := apart_LL c _ _ _ _ f1 h.iM (fun x y _ hy => by omega) (by omega) h.l3 (by omega)
  have hc := linkRound (LL c eW eM) (LL c (fun x => if x = i then w1.heap.size else eW x) eM) wr w1 na (5 + i + 0) (kn i 0) (kn i 0) 0 0 3 i h.st (Or.inl rfl) rfl rfl (fun _ => rfl) rfl rfl rfl rfl rfl rfl rfl rfl rfl
    (fun s hs x hx => by rcases hs with rfl | rfl <;> simp [LL, kn] at *; omega) (by simp [LL]) (by rw [upd_kn3]; exact hA) rfl (fun s hs hne => by rcases hs with rfl | rfl; (exact absurd rfl hne); (right; simp [LL]; omega)) (by simp [LL]) hb1
  refine hc.mono ?_
  rintro e w3 ⟨rfl, na', w4, hrun, hS4, hna, hG, k1, k2, k3⟩
  rw [upd_kn3, show 5 + i + 0 + 1 = 5 + (i + 1) + 0 by omega] at hS4
  refine ⟨rfl, na', w4, hrun, ⟨hS4, f1, h.iM, fun x y _ hy => by omega, ?_, ?_, ?_, h.hM, Nat.le_trans h.sz hG.size, by omega, h.l3, by omega, h.l4⟩, hG, k1, k2, k3⟩
  · refine hG.below h.be h.sz (fun b hb hS => ?_)
    have := h.na
    simp only [LL] at hS
    omega
  · have := h.na; have := h.sz; omega
  · intro x hx
    by_cases hxi : x = i
    · simp [hxi]; have := h.sz; omega
    · simp [hxi]; exact h.hW x (by omega)

theorem roundM (c : Cfg) (w0 wr w1 : World) (j : Nat) (eW eM : Nat → Nat) (na : Nat) (h : Built c w0 wr c.l3 j eW eM na) (hj : j < c.l4) (hb1 : Below wr.heap.size wr w1) :
    Calls Yba.prog 12 #[.pointer (some ⟨c.B + 1, 0, none⟩), .pointer (some ⟨c.B, 13, none⟩), .pointer (some ⟨w1.heap.size, 0, none⟩)] (w1.alloc (.cells (eC (keyB 109 j (c.pM j)) 0) 55)) fun e w3 => e = .returned (.tuple #[]) ∧
      ∃ na' w4, (∀ q, (Instr.mapUpdate 38 (.map (some (c.B + 4))) (.string (keyB 109 j (c.pM j))) (.pointer (some ⟨w1.heap.size, 0, none⟩))).run Yba.prog (w3.drewN q) = .ok () (w4.drewN q)) ∧
        Built c w0 w4 c.l3 (j + 1) eW (fun x => if x = j then w1.heap.size else eM x) na' ∧ BesideG (fun x => x = c.B ∨ x = c.B + 1 ∨ x = na ∨ x = c.B + 4) wr w4 ∧
        w3.cell? ⟨c.B, 16, none⟩ = some (.map (some (c.B + 4))) ∧ w3.cell? ⟨w1.heap.size, 0, none⟩ = some (.string (keyB 109 j (c.pM j))) ∧ w4.cell? ⟨w1.heap.size, 0, none⟩ = some (.string (keyB 109 j (c.pM j))) := by
  have hltW := h.ltW
  have hlt := h.ltM
  have hs1 := hb1.size
  have hl4 := h.l4
  have f1 : ∀ x y, x < j + 1 → y < j + 1 → (if x = j then w1.heap.size else eM x) = (if y = j then w1.heap.size else eM y) → x = y := by
    intro x y hx hy he
    by_cases h1 : x = j <;> by_cases h2 : y = j <;> simp [h1, h2] at he ⊢
    · have := hlt y (by omega); omega
    · have := hlt x (by omega); omega
    · exact h.iM x y (by omega) (by omega) he
  have f2 : ∀ x y, x < c.l3 → y < j + 1 → eW x ≠ (if y = j then w1.heap.size else eM y) := by
    intro x y hx hy
    by_cases h2 : y = j <;> simp [h2]
    · have := hltW x hx; omega
    · exact h.iX x y hx (by omega)
  have hA : Apart (LL c eW (fun x => if x = j then w1.heap.size else eM x)) (kn c.l3 (j + 1)) := apart_LL c _ _ _ _ h.iW f1 f2 (Nat.le_refl _) h.l3 (by omega)
  have hc := linkRound (LL c eW eM) (LL c eW (fun x => if x = j then w1.heap.size else eM x)) wr w1 na (5 + c.l3 + j) (kn c.l3 j) (kn c.l3 j) 0 0 4 j h.st (Or.inr rfl) rfl rfl (fun h => by omega) rfl rfl rfl rfl rfl rfl rfl rfl rfl
    (fun s hs x hx => by rcases hs with rfl | rfl <;> simp [LL, kn] at *; omega) (by simp [LL]) (by rw [upd_kn4]; exact hA) (by simp [LL]) (fun s hs hne => by rcases hs with rfl | rfl; (left; simp [LL, kn]); (exact absurd rfl hne)) (by have := h.l3; simp [LL]; omega) hb1
  refine hc.mono ?_
  rintro e w3 ⟨rfl, na', w4, hrun, hS4, hna, hG, k1, k2, k3⟩
  rw [upd_kn4, show 5 + c.l3 + j + 1 = 5 + c.l3 + (j + 1) by omega] at hS4
  refine ⟨rfl, na', w4, hrun, ⟨hS4, h.iW, f1, f2, ?_, ?_, h.hW, ?_, Nat.le_trans h.sz hG.size, Nat.le_refl _, h.l3, by omega, h.l4⟩, hG, k1, k2, k3⟩
  · refine hG.below h.be h.sz (fun b hb hS => ?_)
    have := h.na
    simp only [LL] at hS
    omega
  · have := h.na; have := h.sz; omega
  · intro x hx
    by_cases hxi : x = j
    · simp [hxi]; have := h.sz; omega
    · simp [hxi]; exact h.hM x (by omega)

/-! ### What else the law does while it builds -/
theorem Built.grown {c : Cfg} {w0 wr w' : World} {i j : Nat} {eW eM : Nat → Nat} {na : Nat} (h : Built c w0 wr i j eW eM na) (g : BesideG (fun _ => False) wr w') : Built c w0 w' i j eW eM na :=
  ⟨h.st.grown g, h.iW, h.iM, h.iX, g.below h.be h.sz (fun _ _ hf => hf.elim), h.na, h.hW, h.hM, Nat.le_trans h.sz g.size, h.li, h.l3, h.lj, h.l4⟩
theorem Built.drewN {c : Cfg} {w0 wr : World} {i j : Nat} {eW eM : Nat → Nat} {na : Nat} (h : Built c w0 wr i j eW eM na) (q : Nat) : Built c w0 (wr.drewN q) i j eW eM na :=
  h.grown ⟨rfl, rfl, rfl, Nat.le_refl _, fun _ _ _ => rfl⟩
theorem Built.alloc {c : Cfg} {w0 wr : World} {i j : Nat} {eW eM : Nat → Nat} {na : Nat} (h : Built c w0 wr i j eW eM na) (o : Obj) : Built c w0 (wr.alloc o) i j eW eM na :=
  h.grown ⟨rfl, rfl, rfl, by simp, fun b hlt _ => heap_old _ _ _ hlt⟩
theorem Built.naBlock {c : Cfg} {w0 wr : World} {i j : Nat} {eW eM : Nat → Nat} {na : Nat} (h : Built c w0 wr i j eW eM na) : ∃ cur, wr.heap[na]? = some (.cells cur 49 (0, 0)) := by
  obtain ⟨cap, xs, _, hX, _⟩ := h.st.hn
  obtain ⟨_, _, _, cur, h, _⟩ := hX
  exact ⟨cur, h⟩
theorem Built.nbBlock {c : Cfg} {w0 wr : World} {i j : Nat} {eW eM : Nat → Nat} {na : Nat} (h : Built c w0 wr i j eW eM na) : ∃ cur, wr.heap[c.B + 1]? = some (.cells cur 46 (0, 0)) := by
  obtain ⟨cap, xs, ⟨fr, hn⟩, _, _⟩ := h.st.hn
  exact ⟨_, hn⟩
/-- A block of another type is none of the state's. -/
theorem Built.off {c : Cfg} {w0 wr : World} {i j : Nat} {eW eM : Nat → Nat} {na b : Nat} {cc : Array Value} {t : TypeId} (h : Built c w0 wr i j eW eM na) (hb : wr.heap[b]? = some (.cells cc t (0, 0))) (ht : t = 39 ∨ t = 2) :
    c.B ≠ b ∧ c.B + 1 ≠ b ∧ c.B + 3 ≠ b ∧ c.B + 4 ≠ b ∧ na ≠ b ∧ (∀ r, R34 r → ∀ x, x < kn i j r → (LL c eW eM).e r x ≠ b) := by
  obtain ⟨cur, hna⟩ := h.naBlock
  obtain ⟨cur2, hnb⟩ := h.nbBlock
  have a1 := h.st.ho
  have a2 := h.st.hl
  exact ⟨ne_type a1 hb (by rcases ht with rfl | rfl <;> decide), ne_type hnb hb (by rcases ht with rfl | rfl <;> decide), ne_type a2 hb (by rcases ht with rfl | rfl <;> decide), Ne.symm (ne_map hb h.st.hm), ne_type hna hb (by rcases ht with rfl | rfl <;> decide),
    fun r hr x hx => ne_type (h.st.he r hr x hx) hb (by rcases ht with rfl | rfl <;> decide)⟩
theorem Built.set {c : Cfg} {w0 wr : World} {i j : Nat} {eW eM : Nat → Nat} {na b : Nat} {cc : Array Value} {t : TypeId} (h : Built c w0 wr i j eW eM na) (hb : wr.heap[b]? = some (.cells cc t (0, 0))) (ht : t = 39 ∨ t = 2) (hB : c.B ≤ b) (o : Nat) (v : Value) :
    Built c w0 (wr.setCell ⟨b, o, none⟩ v) i j eW eM na := by
  obtain ⟨a1, a2, a3, a4, a5, a6⟩ := h.off hb ht
  have hs : Beside (fun x => x = b) wr (wr.setCell ⟨b, o, none⟩ v) := Beside.setCell (S := fun x => x = b) (Beside.refl _ _) ⟨b, o, none⟩ rfl v
  exact ⟨h.st.kept hs.toG a1 a3 a2 a5 a6 a4, h.iW, h.iM, h.iX, hs.toG.below h.be h.sz (fun x _ hx => by omega), h.na, h.hW, h.hM, Nat.le_trans h.sz hs.toG.size, h.li, h.l3, h.lj, h.l4⟩

/-- A row of entries, a row of lengths, over a turn of the state. -/
theorem row_kept {c : Cfg} {w0 wr w4 : World} {i j : Nat} {eW eM : Nat → Nat} {na b m : Nat} {t : TypeId} {f : Nat → Value} (h : Built c w0 wr i j eW eM na) (hr : wr.rowIs b t m f) (ht : t = 39 ∨ t = 2) (hG : BesideG (fun x => x = c.B ∨ x = c.B + 1 ∨ x = na ∨ x = c.B + 4) wr w4) : w4.rowIs b t m f := by
  have hl := hr.lt
  obtain ⟨cc, hb, hcc⟩ := hr
  obtain ⟨a1, a2, a3, a4, a5, _⟩ := h.off hb ht
  exact World.rowIs.of_block ⟨cc, hb, hcc⟩ (hG.block b hl (by omega))
theorem row_grown {wr w4 : World} {b m : Nat} {t : TypeId} {f : Nat → Value} (hr : wr.rowIs b t m f) (hG : BesideG (fun _ => False) wr w4) : w4.rowIs b t m f := hr.of_block (hG.block b hr.lt id)

/-- The row of entries so far. -/
def entRow (e : Nat → Nat) (i : Nat) (x : Nat) : Value := if x < i then .pointer (some ⟨e x, 0, none⟩) else .pointer none
def lenRow (f : Nat → Nat) (i : Nat) (x : Nat) : Value := if x < i then .int .i64 (f x) else .int .i64 0
theorem ent_next {w : World} {b m i eb : Nat} {e : Nat → Nat} (h : w.rowIs b 39 m (entRow e i)) : (w.setCell ⟨b, i, none⟩ (.pointer (some ⟨eb, 0, none⟩))).rowIs b 39 m (entRow (fun x => if x = i then eb else e x) (i + 1)) := by
  refine (h.set i _).congr (fun x hx => ?_)
  unfold entRow
  by_cases h1 : x = i
  · simp [h1]
  · by_cases h2 : x < i
    · simp [h1, h2, show x < i + 1 by omega]
    · simp [h1, h2, show ¬ x < i + 1 by omega]
theorem len_next {w : World} {b m i : Nat} {f : Nat → Nat} (h : w.rowIs b 2 m (lenRow f i)) : (w.setCell ⟨b, i, none⟩ (.int .i64 (f i))).rowIs b 2 m (lenRow f (i + 1)) := by
  refine (h.set i _).congr (fun x hx => ?_)
  unfold lenRow
  by_cases h1 : x = i
  · simp [h1]
  · by_cases h2 : x < i
    · simp [h1, h2, show x < i + 1 by omega]
    · simp [h1, h2, show ¬ x < i + 1 by omega]
def lenW (c : Cfg) (i : Nat) : Nat := (keyB 119 i (c.pW i)).size
def lenM (c : Cfg) (i : Nat) : Nat := (keyB 109 i (c.pM i)).size
theorem lenW_le (c : Cfg) (i : Nat) : lenW c i ≤ 13 := size_keyB _ _ _
theorem lenM_le (c : Cfg) (i : Nat) : lenM c i ≤ 13 := size_keyB _ _ _
end Trim
end Go.Proofs.Ybulkagbm
