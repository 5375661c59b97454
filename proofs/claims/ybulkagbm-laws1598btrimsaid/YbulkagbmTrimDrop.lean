/- THE CONTRACT OF dropGhost (function 18): the last entry of chain r leaves the state. -/
import Derived.Test.YbulkagbmTrimState
import Derived.Test.YbulkagbmTrimWrites
import Derived.RegionTactic
import Derived.BigRegion
import Derived.Deep.RegionLaw
import Derived.Deep.CutRange
namespace Go.Proofs.Ybulkagbm
open Go.RowKit
namespace Trim

/-- 'delete(o.ghosts, g.key)' as one step of a region that draws. -/
theorem step_delete {ops : Array Oper} {o : Oper} {a : Act} {w : World} {K : Act → World → Prop} {Q : Exit → Act → World → Prop} {E : Prop}
    (hgd : o.guard = none) (m x : Operand) (hop : o.op = Op.call { callee := Callee.builtin Builtin.delete, args := #[m, x], argTypes := #[38, 9] })
    (mb : Nat) (kv pre post : List (ByteArray × Nat)) (k : ByteArray) (b : Nat) (hM : MapIs w mb kv) (hk : kv = pre ++ (k, b) :: post) (hp : ∀ p ∈ pre, p.1 ≠ k) (hm : a.eval m = .map (some mb)) (hx : a.eval x = .string k)
    (hK : ∀ w', MapIs w' mb (pre ++ post) → Beside (fun x => x = mb) w w' → K (a.put o.dst (.tuple #[])) w') :
    if Region.wanted o (yielded ops a.tmps) = true then Oper.wp Yba.prog o a w K Q else E := by
  have hw : Region.wanted o (yielded ops a.tmps) = true := by simp [Region.wanted, hgd]
  rw [if_pos hw]
  obtain ⟨w', hrun, h1, h2⟩ := map_drop hM hk hp o.type
  unfold Oper.wp
  simp [execOp, hop, resolve, invoke, builtin, hm, hx, hrun, Result.andThen]
  exact hK w' h1 h2

theorem ne_type {w : World} {a b : Nat} {c c' : Array Value} {t t' : TypeId} {f f' : Nat × Nat} (h : w.heap[a]? = some (.cells c t f)) (h' : w.heap[b]? = some (.cells c' t' f')) (ht : t ≠ t') : a ≠ b := by
  rintro rfl
  rw [h] at h'
  cases h'
  exact ht rfl
theorem ne_map {w : World} {a b : Nat} {c : Array Value} {t : TypeId} {f : Nat × Nat} {kv : List (ByteArray × Nat)} (h : w.heap[a]? = some (.cells c t f)) (h' : MapIs w b kv) : a ≠ b := by
  rintro rfl
  obtain ⟨es, cl, hb, _⟩ := h'
  rw [h] at hb
  cases hb

theorem Nodes.drewN {x : World} {na N cap : Nat} {xs : List Value} (h : Nodes x na N cap xs) (q : Nat) : Nodes (x.drewN q) na N cap xs := h
theorem block_drewN {x : World} {b q : Nat} {o : Option Obj} (h : x.heap[b]? = o) : (x.drewN q).heap[b]? = o := h

set_option maxHeartbeats 1600000 in
theorem dropWalk (ob nb eb mb : Nat) (p : Addr) (w : World) (R1 R2 : World → Prop) (kv pre post : List (ByteArray × Nat)) (k : ByteArray) (gb : Int) (hgb1 : 0 ≤ gb) (hgb2 : gb ≤ 1000000) (hk : k.size ≤ 13) (dm : ob ≠ mb) (em : eb ≠ mb)
    (h21 : Calls Yba.prog 21 #[.pointer (some ⟨ob, 0, none⟩), .pointer (some ⟨eb, 0, none⟩)] w fun e w' => e = .returned (.pointer (some p)) ∧ ∃ q, w' = w.drewN q)
    (h22 : ∀ q, Calls Yba.prog 22 #[.pointer (some p), .pointer (some ⟨eb, 0, none⟩)] (w.drewN q) fun e w' => e = .returned (.tuple #[]) ∧ R1 w')
    (c1 : ∀ w1, R1 w1 → w1.cell? ⟨ob, 0, none⟩ = some (.pointer (some ⟨nb, 0, none⟩)))
    (h23 : ∀ w1, R1 w1 → Calls Yba.prog 23 #[.pointer (some ⟨nb, 0, none⟩), .pointer (some ⟨eb, 0, none⟩)] w1 fun e w' => e = .returned (.tuple #[]) ∧ R2 w')
    (c2 : ∀ w2, R2 w2 → MapIs w2 mb kv ∧ w2.cell? ⟨ob, 16, none⟩ = some (.map (some mb)) ∧ w2.cell? ⟨ob, 17, none⟩ = some (.int .i64 gb) ∧ w2.frozen? ⟨ob, 17, none⟩ = false ∧ w2.cell? ⟨eb, 0, none⟩ = some (.string k))
    (hkv : ∃ b, kv = pre ++ (k, b) :: post) (hp : ∀ p ∈ pre, p.1 ≠ k) :
    Calls Yba.prog 18 #[.pointer (some ⟨ob, 0, none⟩), .pointer (some ⟨eb, 0, none⟩)] w fun e w' => e = .returned (.tuple #[]) ∧
      ∃ w2 w3 q, R2 w2 ∧ MapIs w3 mb (pre ++ post) ∧ Beside (fun x => x = mb) w2 w3 ∧ w' = (w3.setCell ⟨ob, 17, none⟩ (.int .i64 (gb - k.size))).drewN q := by
  obtain ⟨b, hkv⟩ := hkv
  have HKV : Hid (kv = pre ++ (k, b) :: post) := hkv
  have HP : Hid (∀ p ∈ pre, p.1 ≠ k) := hp
  clear hkv hp
  go_enter Yba.func18, Yba.ntmps18
  go_wp2_with fail
  refine h21.mono ?_
  rintro e w0 ⟨rfl, q, rfl⟩
  clear h21
  go_wp2_with fail
  refine (h22 q).mono ?_
  rintro e w1 ⟨rfl, hR1⟩
  have k1 := c1 w1 hR1
  clear h22 c1
  go_wp2_with fail
  refine (h23 w1 hR1).mono ?_
  rintro e w2 ⟨rfl, hR2⟩
  obtain ⟨hM, m1, m2, m3, m4⟩ := c2 w2 hR2
  clear h23 c2 k1
  go_wp2_with fail
  go_cut [] from 15 to 22 (fun wx => MapIs wx mb (pre ++ post) ∧ Beside (fun x => x = mb) w2 wx)
  case first =>
    go_region_law (refine step_delete rfl (.tmp 18) (.tmp 22) rfl mb kv pre post k b hM HKV.out HP.out rfl rfl ?_; intro w3 hM3 hB3)
    all_goals
      go_wp2_with fail
      go_meet
      case rel => exact ⟨hM3, hB3.os, hB3.tape, hB3.output, hB3.size, hB3.block⟩
  case rest =>
    obtain ⟨hM3, hB3⟩ := hcut
    have n2 : wc.cell? ⟨ob, 17, none⟩ = some (.int .i64 gb) := (World.cell?_of_block (w := w2) (hB3.block ob dm)).trans m2
    have n3 : wc.frozen? ⟨ob, 17, none⟩ = false := (World.frozen?_of_block (w := w2) (hB3.block ob dm)).trans m3
    have n4 : wc.cell? ⟨eb, 0, none⟩ = some (.string k) := (World.cell?_of_block (w := w2) (hB3.block eb em)).trans m4
    clear m1 m2 m3 m4 hM
    go_wp2_with fail
    go_region
    go_wp2_with fail
    go_end0
    exact ⟨rfl, w2, wc, 1, hR2, hM3, hB3, rfl⟩

set_option maxHeartbeats 1600000 in
theorem dropGhost (L : Lay) (w : World) (na N : Nat) (k n : Nat → Nat) (gb mx : Int) (r m : Nat) (hA : Apart L k) (hS : St L w na N k n gb mx) (hr : R34 r) (hm : n r = m + 1) (hgb : 0 ≤ gb ∧ gb ≤ 1000000) :
    Calls Yba.prog 18 #[.pointer (some ⟨L.ob, 0, none⟩), .pointer (some ⟨L.e r m, 0, none⟩)] w fun e w' => e = .returned (.tuple #[]) ∧ St L w' na N k (upd n r m) (gb - (L.key r m).size) mx ∧ Beside (touch L na k) w w' := by
  obtain ⟨ho, hl, ⟨cap, xs, ⟨fr, hn⟩, hX, hC⟩, hM, hE, hK⟩ := hS
  have hmk : m < k r := by have := hK r hr; omega
  have hEr := hE r hr m hmk
  rw [if_pos (by omega)] at hEr
  have hsz := hA.size r m hr hmk
  obtain ⟨hgb1, hgb2⟩ := hgb
  have hr5 : r < 5 := by rcases hr with rfl | rfl <;> omega
  have hCr := hC r hr
  rw [hm] at hCr
  have hb5 : 5 ≤ L.b r := by rcases hr with rfl | rfl; (have := hA.b3; omega); (have := hA.b4; omega)
  obtain ⟨nd, hnd⟩ : ∃ nd, nd = L.b r + m := ⟨_, rfl⟩
  obtain ⟨pv, hpv⟩ : ∃ pv, pv = back r (L.b r) m := ⟨_, rfl⟩
  have hpvn : pv < nd := by rw [hpv, hnd]; unfold back; split <;> omega
  have hndN : nd < N := by have := lt_of_get (hCr.ptr m (by omega)); rw [hX.1, ← hnd] at this; omega
  have hrN : r < N := by omega
  have hp0 : xs[nd * 5]? = some (.pointer (some ⟨L.e r m, 0, none⟩)) := by rw [hnd]; exact hCr.ptr m (by omega)
  have hp1 : xs[nd * 5 + 1]? = some (.int .i32 pv) := by rw [hnd, hpv]; exact hCr.prv m (by omega)
  have hp2 : xs[nd * 5 + 2]? = some (.int .i32 r) := by rw [hnd]; have := hCr.nxt m (by omega); rwa [if_pos rfl] at this
  have hp3 : xs[nd * 5 + 3]? = some (.int .i32 r) := by rw [hnd]; exact hCr.lst m (by omega)
  have hp4 : xs[nd * 5 + 4]? = some (.int .u32 0) := by rw [hnd]; exact hCr.use m (by omega)
  have hq1 : ∃ v, xs[pv * 5 + 2]? = some (.int .i32 v) := by
    rw [hpv]; unfold back; split
    · exact hCr.next
    · have := hCr.nxt (m - 1) (by omega)
      rw [show L.b r + (m - 1) = L.b r + m - 1 by omega] at this
      exact ⟨_, this⟩
  have hq2 : ∃ v, xs[r * 5 + 1]? = some (.int .i32 v) := ⟨_, hCr.prev⟩
  obtain ⟨cur, hna⟩ : ∃ cur, w.heap[na]? = some (.cells cur 49 (0, 0)) := by obtain ⟨_, _, _, cur, h, _⟩ := hX; exact ⟨cur, h⟩
  have d1 : L.ob ≠ na := ne_type ho hna (by decide)
  have d2 : L.nb ≠ na := ne_type hn hna (by decide)
  have d3 : L.e r m ≠ na := ne_type hEr hna (by decide)
  have d4 : L.e r m ≠ L.nb := ne_type hEr hn (by decide)
  have d5 : L.ob ≠ L.nb := ne_type ho hn (by decide)
  have d6 : L.e r m ≠ L.ob := ne_type hEr ho (by decide)
  have d7 : L.ob ≠ L.mb := ne_map ho hM
  have d8 : L.nb ≠ L.mb := ne_map hn hM
  have d9 : na ≠ L.mb := ne_map hna hM
  have d10 : L.e r m ≠ L.mb := ne_map hEr hM
  have hlist : (lC L)[r]? = some (.pointer (some ⟨L.ob, 3 * r + 1, none⟩)) := by rcases hr with rfl | rfl <;> rfl
  have o0 : (oC L n gb mx)[0]? = some (.pointer (some ⟨L.nb, 0, none⟩)) := rfl
  have o1 : (oC L n gb mx)[3 * r + 1]? = some (.pointer (some ⟨L.nb, 0, none⟩)) := by rcases hr with rfl | rfl <;> rfl
  have o2 : (oC L n gb mx)[3 * r + 1 + 2]? = some (.int .i64 ((m + 1 : Nat) : Int)) := by rw [← hm]; rcases hr with rfl | rfl <;> rfl
  have o3 : (oC L n gb mx).setIfInBounds (3 * r + 1 + 2) (.int .i64 (((m + 1 : Nat) : Int) - 1)) = oC L (upd n r m) gb mx := by
    rw [show ((m + 1 : Nat) : Int) - 1 = (m : Int) by omega]
    rcases hr with rfl | rfl <;> rfl
  have hm2 : m ≤ 1024 := by have := hA.k1; have := hA.k2; rcases hr with rfl | rfl <;> omega
  have w21 := listOfO L.ob L.nb na L.lb (L.e r m) N cap nd r ⟨L.ob, 3 * r + 1, none⟩ w ((cell_block ho 0).trans o0) (cell_block hn 0) (cell_block hn 1) (by rw [hnd]; exact cell_block hEr 4) hndN (hX.cell hp3) hr5 ((cell_block hl r).trans hlist)
  have w22 : ∀ q, Calls Yba.prog 22 #[.pointer (some ⟨L.ob, 3 * r + 1, none⟩), .pointer (some ⟨L.e r m, 0, none⟩)] (w.drewN q) fun e w' => e = .returned (.tuple #[]) ∧ (w'.heap[L.ob]? = some (.cells (oC L (upd n r m) gb mx) 42 (0, 0)) ∧
      Nodes w' na N cap (((xs.set (pv * 5 + 2) (.int .i32 r)).set (r * 5 + 1) (.int .i32 pv)).set (nd * 5 + 3) (.int .i32 (-1))) ∧ Beside (fun x => x = na ∨ x = L.ob) w w') := by
    intro q
    refine (remove L.ob (3 * r + 1) L.nb na (L.e r m) N cap nd pv r ((m + 1 : Nat) : Int) (w.drewN q) ((cell_block ho _).trans o1) (cell_block hn 0) (by rw [hnd]; exact cell_block hEr 4) hndN (by omega) hrN
      (hX.cell hp1) (hX.cell hp2) ((cell_block ho _).trans o2) (by omega) (hq1.elim fun v hv => ⟨v, hX.cell hv⟩) (hq2.elim fun v hv => ⟨v, hX.cell hv⟩) ⟨_, hX.cell hp3⟩ hX.frozen (frozen_block ho _) d1 d2 (by omega) (by omega)).mono ?_
    rintro e w' ⟨he, q', hw⟩
    have ar := after_remove (w := w.drewN q) ho hX d1 (pv * 5 + 2) (r * 5 + 1) (nd * 5 + 3) (3 * r + 1 + 2) (.int .i32 r) (.int .i32 pv) (.int .i32 (-1)) (.int .i64 (((m + 1 : Nat) : Int) - 1))
    rw [o3] at ar
    rw [hw]
    exact ⟨he, block_drewN ar.1, ar.2.1.drewN _, ar.2.2.undrawn.drewN _⟩
  have w23 : ∀ w1, (w1.heap[L.ob]? = some (.cells (oC L (upd n r m) gb mx) 42 (0, 0)) ∧ Nodes w1 na N cap (((xs.set (pv * 5 + 2) (.int .i32 r)).set (r * 5 + 1) (.int .i32 pv)).set (nd * 5 + 3) (.int .i32 (-1))) ∧ Beside (fun x => x = na ∨ x = L.ob) w w1) →
      Calls Yba.prog 23 #[.pointer (some ⟨L.nb, 0, none⟩), .pointer (some ⟨L.e r m, 0, none⟩)] w1 fun e w' => e = .returned (.tuple #[]) ∧ (w'.heap[L.ob]? = some (.cells (oC L (upd n r m) gb mx) 42 (0, 0)) ∧
        w'.heap[L.nb]? = some (.cells #[.slice (some ⟨na, 0, none⟩) N cap, .slice (some ⟨L.lb, 0, none⟩) 5 5, .int .i32 nd] 46 (0, 0)) ∧ w'.heap[L.e r m]? = some (.cells (eC (L.key r m) 0) 55 (0, 0)) ∧
        Nodes w' na N cap (dropped xs r pv nd fr) ∧ Beside (fun x => x = na ∨ x = L.ob ∨ x = L.nb ∨ x = L.e r m) w w') := by
    rintro w1 ⟨ho1, hX1, hB1⟩
    have hn1 := (hB1.block L.nb (by omega)).trans hn
    have hE1 := (hB1.block (L.e r m) (by omega)).trans hEr
    refine (release L.nb na (L.e r m) N cap nd fr w1 (cell_block hn1 0) (by rw [hnd]; exact cell_block hE1 4) hndN (cell_block hn1 2)
      ⟨_, hX1.cell (by rw [List.getElem?_set_ne (by omega), List.getElem?_set_ne (by omega), List.getElem?_set_ne (by omega)]; exact hp0)⟩
      ⟨_, hX1.cell (by rw [List.getElem?_set_ne (by omega), List.getElem?_set_ne (by omega), List.getElem?_set_ne (by omega)]; exact hp1)⟩
      ⟨_, hX1.cell (by rw [List.getElem?_set_ne (by omega), List.getElem?_set_ne (by omega), List.getElem?_set_ne (by omega)]; exact hp2)⟩
      ⟨_, hX1.cell (by rw [List.getElem?_set_self (by simp; exact lt_of_get hp3)])⟩
      ⟨_, hX1.cell (by rw [List.getElem?_set_ne (by omega), List.getElem?_set_ne (by omega), List.getElem?_set_ne (by omega)]; exact hp4)⟩
      hX1.frozen (frozen_block hn1 2) (frozen_block hE1 4) d3 d2 d4).mono ?_
    rintro e w' ⟨he, q', hw⟩
    obtain ⟨a1, a2, a3, a4⟩ := after_release hn1 hE1 hX1 d3 d2 d4 (nd * 5) (nd * 5 + 1) (nd * 5 + 2) (nd * 5 + 3) (nd * 5 + 4) (.pointer none) (.int .i32 0) (.int .i32 fr) (.int .i32 (-1)) (.int .u32 0) (.int .i32 nd) (.int .i32 0) _ rfl
    have a2' := a2.trans (congrArg (fun c => some (Obj.cells c 55 (0, 0))) (show (eC (L.key r m) (L.b r + m)).setIfInBounds 4 (.int .i32 0) = eC (L.key r m) 0 from rfl))
    have a0 := (a4.block L.ob (by omega)).trans ho1
    have a5 := hB1.join a4 (fun x => x = na ∨ x = L.ob ∨ x = L.nb ∨ x = L.e r m) (fun x hx => by omega) (fun x hx => by omega)
    rw [hw]
    exact ⟨he, block_drewN a0, block_drewN a1, block_drewN a2', a3.drewN _, a5.drewN _⟩
  obtain ⟨pre, post, e1, e2, e3⟩ := kvs_drop L k n hA hK r m hr hm
  refine (dropWalk L.ob L.nb (L.e r m) L.mb ⟨L.ob, 3 * r + 1, none⟩ w _ _ (kvs L n) pre post (L.key r m) gb hgb1 hgb2 hsz d7 d10 w21 w22 (fun w1 h => cell_block h.1 0) w23
    (fun w2 h => ⟨hM.of_block (h.2.2.2.2.block L.mb (by omega)), cell_block h.1 16, cell_block h.1 17, frozen_block h.1 17, cell_block h.2.2.1 0⟩) ⟨_, e1⟩ e3).mono ?_
  clear w21 w22 w23
  rintro e w' ⟨he, w2, w3, q, ⟨b1, b2, b3, b4, b5⟩, hM3, hB3, hw⟩
  have hB := hB3.mono (T := fun x => x = L.mb ∨ x = L.ob) (fun x hx => Or.inl hx) |>.setCell ⟨L.ob, 17, none⟩ (Or.inr rfl) (.int .i64 (gb - (L.key r m).size))
  have hW := (b5.join hB (fun x => x = na ∨ x = L.ob ∨ x = L.nb ∨ x = L.e r m ∨ x = L.mb) (fun x hx => by omega) (fun x hx => by omega)).drewN q
  rw [← hw] at hW
  have keep : ∀ x, x ≠ L.mb → x ≠ L.ob → w'.heap[x]? = w2.heap[x]? := fun x h1 h2 => by rw [hw]; exact block_drewN (hB.block x (by omega))
  refine ⟨he, ⟨?_, ?_, ⟨cap, dropped xs r pv nd fr, ⟨(nd : Int), ?_⟩, ?_, ?_⟩, ?_, ?_, ?_⟩, hW.mono ?_⟩
  · rw [hw]
    exact block_drewN (setCell_block ((hB3.block L.ob d7).trans b1) 17 _)
  · exact (hW.block L.lb (by
      have z1 := ne_type hl hna (by decide)
      have z2 := ne_type hl ho (by decide)
      have z3 := ne_type hl hn (by decide)
      have z4 := ne_type hl hEr (by decide)
      have z5 := ne_map hl hM
      omega)).trans hl
  · exact (keep L.nb d8 (Ne.symm d5)).trans b2
  · exact b4.of_block (keep na d9 (Ne.symm d1))
  · intro t ht
    by_cases hts : t = r
    · subst hts
      have := hCr.drop hr5 hb5 fr
      rw [← hpv, ← hnd] at this
      simpa [upd] using this
    · have hoth := (hC t ht).dropOther (r' := r) (b' := L.b r) (m := m) (by rcases ht with rfl | rfl <;> omega) hr5 hts (by rcases ht with rfl | rfl; (have := hA.b3; omega); (have := hA.b4; omega)) hb5
        (by have := hA.b3; have := hA.b4; have := hK t ht; have := hK r hr; rcases ht with rfl | rfl <;> rcases hr with rfl | rfl <;> omega) fr
      rw [← hpv, ← hnd] at hoth
      simpa [upd, hts] using hoth
  · rw [e2, hw]
    exact hM3.of_block (block_drewN (Below.heap_setCell _ _ _ _ (Ne.symm d7)))
  · intro t ht i hi
    by_cases hti : t = r ∧ i = m
    · obtain ⟨rfl, rfl⟩ := hti
      rw [keep (L.e t i) d10 d6, b3]
      simp [upd]
    · have hEt := hE t ht i hi
      have hne : L.e t i ≠ L.e r m := fun h => hti (hA.ent t r i m ht hr hi hmk h)
      rw [hW.block (L.e t i) (by
        have z1 := ne_type hEt hna (by decide)
        have z2 := ne_type hEt ho (by decide)
        have z3 := ne_type hEt hn (by decide)
        have z5 := ne_map hEt hM
        omega), hEt]
      by_cases hts : t = r
      · subst hts
        have : (i < n t) = (i < upd n t m t) := by simp only [upd, if_true]; rw [hm]; exact propext ⟨fun h => by omega, fun h => by omega⟩
        simp only [this]
      · simp [upd, hts]
  · intro t ht
    have := hK t ht
    unfold upd
    split
    · rename_i h; subst h; omega
    · exact this
  · intro x hx
    rcases hx with rfl | rfl | rfl | rfl | rfl
    · exact Or.inr (Or.inr (Or.inl rfl))
    · exact Or.inl rfl
    · exact Or.inr (Or.inl rfl)
    · exact Or.inr (Or.inr (Or.inr (Or.inr ⟨r, m, hr, hmk, rfl⟩)))
    · exact Or.inr (Or.inr (Or.inr (Or.inl rfl)))
end Trim
end Go.Proofs.Ybulkagbm
