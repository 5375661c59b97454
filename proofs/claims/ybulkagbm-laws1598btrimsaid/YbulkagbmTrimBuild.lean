/- BUILDING THE STATE: linking a new entry in (the contract of 'zzs1598blink' on the state), storing it in the map, and the configuration of the law. -/
import Derived.Test.YbulkagbmTrimGhosts
import Derived.Test.YbulkagbmTrimKey
namespace Go.Proofs.Ybulkagbm
open Go.RowKit

/-- Beside the blocks of S every block that was there is as it was; new blocks may have come. -/
structure BesideG (S : Nat → Prop) (w w' : World) : Prop where
  os : w'.os = w.os
  tape : w'.tape = w.tape
  output : w'.output = w.output
  size : w.heap.size ≤ w'.heap.size
  block : ∀ b, b < w.heap.size → ¬ S b → w'.heap[b]? = w.heap[b]?
theorem BesideG.trans {S : Nat → Prop} {a b c : World} (h : BesideG S a b) (k : BesideG S b c) : BesideG S a c :=
  ⟨k.os.trans h.os, k.tape.trans h.tape, k.output.trans h.output, Nat.le_trans h.size k.size, fun i hi hs => (k.block i (Nat.lt_of_lt_of_le hi h.size) hs).trans (h.block i hi hs)⟩
theorem Beside.toG {S : Nat → Prop} {w w' : World} (h : Beside S w w') : BesideG S w w' := ⟨h.os, h.tape, h.output, by rw [h.size]; exact Nat.le_refl _, fun b _ hb => h.block b hb⟩
theorem BesideG.mono {S T : Nat → Prop} {w w' : World} (h : BesideG S w w') (hs : ∀ b, b < w.heap.size → S b → T b) : BesideG T w w' := ⟨h.os, h.tape, h.output, h.size, fun b hb ht => h.block b hb (fun e => ht (hs b hb e))⟩
theorem BesideG.below {S : Nat → Prop} {B : Nat} {w0 w w' : World} (h : BesideG S w w') (hb : Below B w0 w) (hB : B ≤ w.heap.size) (hS : ∀ b, b < w.heap.size → S b → B ≤ b) : Below B w0 w' :=
  hb.trans ⟨h.os, h.tape, h.output, h.size, fun b hlt => h.block b (by omega) (fun e => by have := hS b (by omega) e; omega)⟩
theorem belowG {w w' : World} (h : Below w.heap.size w w') : BesideG (fun _ => False) w w' := ⟨h.os, h.tape, h.output, h.size, fun b hb _ => h.block b hb⟩

namespace Trim

theorem after_link {w1 : World} {nb g eb ob N cap : Nat} {nc ec oc : Array Value} {xs : List Value} (hn : w1.heap[nb]? = some (.cells nc 46 (0, 0))) (he : w1.heap[eb]? = some (.cells ec 55 (0, 0))) (ho : w1.heap[ob]? = some (.cells oc 42 (0, 0))) (hX : Nodes w1 g N cap xs)
    (d1 : nb ≠ g) (d2 : eb ≠ g) (d3 : ob ≠ g) (d4 : eb ≠ nb) (d5 : eb ≠ ob) (d6 : ob ≠ nb) (p1 p2 o : Nat) (v0 v1 v2 v3 v4 : Value) (w' : World)
    (hw : w' = ((((w1.setCell ⟨nb, 0, none⟩ v0).setCell ⟨g, p1, none⟩ v1).setCell ⟨g, p2, none⟩ v2).setCell ⟨eb, 4, none⟩ v3).setCell ⟨ob, o, none⟩ v4) :
    w'.heap[nb]? = some (.cells (nc.setIfInBounds 0 v0) 46 (0, 0)) ∧ w'.heap[eb]? = some (.cells (ec.setIfInBounds 4 v3) 55 (0, 0)) ∧ w'.heap[ob]? = some (.cells (oc.setIfInBounds o v4) 42 (0, 0)) ∧
      Nodes w' g N cap ((xs.set p1 v1).set p2 v2) ∧ Beside (fun x => x = nb ∨ x = g ∨ x = eb ∨ x = ob) w1 w' := by
  subst hw
  refine ⟨?_, ?_, ?_, ((((hX.setOther (Ne.symm d1) _).set p1 v1).set p2 v2).setOther (Ne.symm d2) _).setOther (Ne.symm d3) _, ?_⟩
  · rw [Below.heap_setCell _ _ _ _ (Ne.symm d6), Below.heap_setCell _ _ _ _ (Ne.symm d4), Below.heap_setCell _ _ _ _ d1, Below.heap_setCell _ _ _ _ d1]
    exact setCell_block hn 0 v0
  · rw [Below.heap_setCell _ _ _ _ d5]
    refine setCell_block ?_ 4 v3
    rw [Below.heap_setCell _ _ _ _ d2, Below.heap_setCell _ _ _ _ d2, Below.heap_setCell _ _ _ _ d4]
    exact he
  · refine setCell_block ?_ o v4
    rw [Below.heap_setCell _ _ _ _ (Ne.symm d5), Below.heap_setCell _ _ _ _ d3, Below.heap_setCell _ _ _ _ d3, Below.heap_setCell _ _ _ _ d6]
    exact ho
  · exact (((((Beside.refl (fun x => x = nb ∨ x = g ∨ x = eb ∨ x = ob) w1).setCell ⟨nb, 0, none⟩ (Or.inl rfl) _).setCell ⟨g, p1, none⟩ (Or.inr (Or.inl rfl)) _).setCell ⟨g, p2, none⟩ (Or.inr (Or.inl rfl)) _).setCell ⟨eb, 4, none⟩ (Or.inr (Or.inr (Or.inl rfl))) _).setCell ⟨ob, o, none⟩ (Or.inr (Or.inr (Or.inr rfl))) _

/-- The state but for the map. -/
structure StC (L : Lay) (w : World) (na N : Nat) (k n : Nat → Nat) (gb mx : Int) : Prop where
  ho : w.heap[L.ob]? = some (.cells (oC L n gb mx) 42 (0, 0))
  hl : w.heap[L.lb]? = some (.cells (lC L) 50 (0, 0))
  hn : ∃ cap xs, (∃ fr : Int, w.heap[L.nb]? = some (.cells #[.slice (some ⟨na, 0, none⟩) N cap, .slice (some ⟨L.lb, 0, none⟩) 5 5, .int .i32 fr] 46 (0, 0))) ∧ Nodes w na N cap xs ∧ ∀ r, R34 r → Chain xs r (L.b r) (n r) (L.e r)
  he : ∀ r, R34 r → ∀ i, i < k r → w.heap[L.e r i]? = some (.cells (eC (L.key r i) (if i < n r then L.b r + i else 0)) 55 (0, 0))
  hk : ∀ r, R34 r → n r ≤ k r
theorem St.core {L : Lay} {w : World} {na N : Nat} {k n : Nat → Nat} {gb mx : Int} (h : St L w na N k n gb mx) : StC L w na N k n gb mx := ⟨h.ho, h.hl, h.hn, h.he, h.hk⟩
theorem StC.full {L : Lay} {w : World} {na N : Nat} {k n : Nat → Nat} {gb mx : Int} (h : StC L w na N k n gb mx) (hm : MapIs w L.mb (kvs L n)) : St L w na N k n gb mx := ⟨h.ho, h.hl, h.hn, hm, h.he, h.hk⟩

/-- The state stays where its blocks stay. -/
theorem StC.kept {L : Lay} {w w' : World} {na N : Nat} {k n : Nat → Nat} {gb mx : Int} (h : StC L w na N k n gb mx) {S : Nat → Prop} (hb : BesideG S w w') (h1 : ¬ S L.ob) (h2 : ¬ S L.lb) (h3 : ¬ S L.nb) (h4 : ¬ S na) (h5 : ∀ r, R34 r → ∀ i, i < k r → ¬ S (L.e r i)) : StC L w' na N k n gb mx := by
  have lt : ∀ {b : Nat} {o : Obj}, w.heap[b]? = some o → b < w.heap.size := fun h => (Array.getElem?_eq_some_iff.1 h).1
  obtain ⟨cap, xs, ⟨fr, hn⟩, hX, hC⟩ := h.hn
  exact ⟨(hb.block _ (lt h.ho) h1).trans h.ho, (hb.block _ (lt h.hl) h2).trans h.hl, ⟨cap, xs, ⟨fr, (hb.block _ (lt hn) h3).trans hn⟩, hX.of_block (hb.block _ hX.lt h4), hC⟩, fun r hr i hi => (hb.block _ (lt (h.he r hr i hi)) (h5 r hr i hi)).trans (h.he r hr i hi), h.hk⟩
theorem St.kept {L : Lay} {w w' : World} {na N : Nat} {k n : Nat → Nat} {gb mx : Int} (h : St L w na N k n gb mx) {S : Nat → Prop} (hb : BesideG S w w') (h1 : ¬ S L.ob) (h2 : ¬ S L.lb) (h3 : ¬ S L.nb) (h4 : ¬ S na) (h5 : ∀ r, R34 r → ∀ i, i < k r → ¬ S (L.e r i)) (h6 : ¬ S L.mb) : St L w' na N k n gb mx :=
  (h.core.kept hb h1 h2 h3 h4 h5).full (h.hm.of_block (hb.block _ h.hm.lt h6))
theorem St.grown {L : Lay} {w w' : World} {na N : Nat} {k n : Nat → Nat} {gb mx : Int} (h : St L w na N k n gb mx) (hb : BesideG (fun _ => False) w w') : St L w' na N k n gb mx :=
  h.kept hb id id id id (fun _ _ _ _ => id) id

/-- The state under another naming of entries not yet there. -/
theorem St.rename {L : Lay} {w : World} {na N : Nat} {k n : Nat → Nat} {gb mx : Int} (h : St L w na N k n gb mx) (L' : Lay) (hob : L'.ob = L.ob) (hnb : L'.nb = L.nb) (hlb : L'.lb = L.lb) (hmb : L'.mb = L.mb) (h1 : L'.x1 = L.x1) (h2 : L'.x2 = L.x2) (h3 : L'.x3 = L.x3) (hb : L'.b = L.b) (hkey : L'.key = L.key)
    (he : ∀ r, R34 r → ∀ i, i < k r → L'.e r i = L.e r i) : St L' w na N k n gb mx := by
  obtain ⟨ho, hl, ⟨cap, xs, hn, hX, hC⟩, hm, hE, hK⟩ := h
  have ho' : oC L' n gb mx = oC L n gb mx := by unfold oC; rw [hnb, hmb, h1, h2, h3]
  have hl' : lC L' = lC L := by unfold lC; rw [hob]
  have hkv : kvs L' n = kvs L n := by
    unfold kvs
    rw [hkey]
    congr 1
    · apply List.map_congr_left
      intro i hi
      rw [he 3 (Or.inl rfl) i (by have := List.mem_range.1 hi; have := hK 3 (Or.inl rfl); omega)]
    · apply List.map_congr_left
      intro i hi
      rw [he 4 (Or.inr rfl) i (by have := List.mem_range.1 hi; have := hK 4 (Or.inr rfl); omega)]
  refine ⟨by rw [ho', hob]; exact ho, by rw [hl', hlb]; exact hl, ⟨cap, xs, by rw [hnb, hlb]; exact hn, hX, fun r hr => ?_⟩, by rw [hmb, hkv]; exact hm, fun r hr i hi => by rw [he r hr i hi, hkey, hb]; exact hE r hr i hi, hK⟩
  have := hC r hr
  rw [hb]
  exact ⟨this.prev, this.next, fun i hi => by rw [he r hr i (by have := hK r hr; omega)]; exact this.ptr i hi, this.prv, this.nxt, this.lst, this.use⟩

theorem linkSt (L : Lay) (w : World) (na N : Nat) (k n : Nat → Nat) (gb mx : Int) (r t : Nat) (hS : St L w na N k n gb mx) (hr : R34 r) (hn0 : n r = t) (hk0 : k r = t) (hA : Apart L (upd k r (t + 1))) (hN : N = L.b r + t)
    (hE : w.heap[L.e r t]? = some (.cells (eC (L.key r t) 0) 55 (0, 0))) (hap : ∀ s, R34 s → s ≠ r → L.b s + n s ≤ L.b r ∨ L.b r + t + 1 ≤ L.b s) (hbb : L.b r ≤ 5000) :
    Calls Yba.prog 12 #[.pointer (some ⟨L.nb, 0, none⟩), .pointer (some ⟨L.ob, 3 * r + 1, none⟩), .pointer (some ⟨L.e r t, 0, none⟩)] w fun e w' => e = .returned (.tuple #[]) ∧
      ∃ na', StC L w' na' (N + 1) (upd k r (t + 1)) (upd n r (t + 1)) gb mx ∧ (na' = na ∨ w.heap.size ≤ na') ∧ BesideG (fun x => x = L.ob ∨ x = L.nb ∨ x = na ∨ x = L.e r t) w w' := by
  obtain ⟨ho, hl, ⟨cap, xs, ⟨fr, hn⟩, hX, hC⟩, hM, hEE, hK⟩ := hS
  have hr5 : r < 5 := by rcases hr with rfl | rfl <;> omega
  have hb5 : 5 ≤ L.b r := by rcases hr with rfl | rfl; (have := hA.b3; omega); (have := hA.b4; omega)
  have ht : t ≤ 1024 := by have := hA.k1; have := hA.k2; rcases hr with rfl | rfl <;> simp [upd] at * <;> omega
  have hCr := hC r hr
  rw [hn0] at hCr
  obtain ⟨pv, hpv⟩ : ∃ pv, pv = back r (L.b r) t := ⟨_, rfl⟩
  have hpvN : pv < N := by rw [hpv, hN]; unfold back; split <;> omega
  have hq1 : ∃ v, xs[pv * 5 + 2]? = some (.int .i32 v) := by
    rw [hpv]; unfold back; split
    · exact hCr.next
    · have := hCr.nxt (t - 1) (by omega)
      rw [show L.b r + (t - 1) = L.b r + t - 1 by omega] at this
      exact ⟨_, this⟩
  obtain ⟨cur, hna⟩ : ∃ cur, w.heap[na]? = some (.cells cur 49 (0, 0)) := by obtain ⟨_, _, _, cur, h, _⟩ := hX; exact ⟨cur, h⟩
  have d1 : L.ob ≠ na := ne_type ho hna (by decide)
  have d2 : L.nb ≠ na := ne_type hn hna (by decide)
  have d3 : L.e r t ≠ na := ne_type hE hna (by decide)
  have d4 : L.ob ≠ L.nb := ne_type ho hn (by decide)
  have d5 : L.e r t ≠ L.nb := ne_type hE hn (by decide)
  have d6 : L.e r t ≠ L.ob := ne_type hE ho (by decide)
  have lt : ∀ {b : Nat} {o : Obj}, w.heap[b]? = some o → b < w.heap.size := fun h => (Array.getElem?_eq_some_iff.1 h).1
  have o1 : (oC L n gb mx)[3 * r + 1 + 1]? = some (.int .i32 r) := by rcases hr with rfl | rfl <;> rfl
  have o2 : (oC L n gb mx)[3 * r + 1 + 2]? = some (.int .i64 (t : Int)) := by rw [← hn0]; rcases hr with rfl | rfl <;> rfl
  have o3 : (oC L n gb mx).setIfInBounds (3 * r + 1 + 2) (.int .i64 ((t : Int) + 1)) = oC L (upd n r (t + 1)) gb mx := by
    rw [show (t : Int) + 1 = ((t + 1 : Nat) : Int) by omega]
    rcases hr with rfl | rfl <;> rfl
  refine (link L.ob (3 * r + 1) L.nb na (L.e r t) N cap r pv xs (t : Int) w (by omega) (cell_block hn 0) ((cell_block ho _).trans o1) (by omega) hpvN hX (by rw [hpv]; exact hCr.prev) hq1 ((cell_block ho _).trans o2) (by omega) ⟨_, cell_block hE 4⟩ (frozen_block hn 0) (frozen_block ho _) (frozen_block hE 4) d1 d2 d3 d4 d5 d6).mono ?_
  rintro e w' ⟨he, g', cap', w1, q, hw, hX1, hg, hgr⟩
  have keep : ∀ x, x < w.heap.size → x ≠ na → w1.heap[x]? = w.heap[x]? := fun x hx hne => hgr.block x hx (by simpa using hne)
  have n1 : L.nb ≠ g' := by have := lt hn; omega
  have n2 : L.e r t ≠ g' := by have := lt hE; omega
  have n3 : L.ob ≠ g' := by have := lt ho; omega
  obtain ⟨a1, a2, a3, a4, a5⟩ := after_link ((keep _ (lt hn) d2).trans hn) ((keep _ (lt hE) d3).trans hE) ((keep _ (lt ho) d1).trans ho) hX1 n1 n2 n3 d5 d6 d4 (pv * 5 + 2) (r * 5 + 1) (3 * r + 1 + 2)
    (.slice (some ⟨g', 0, none⟩) (N + 1) cap') (.int .i32 N) (.int .i32 N) (.int .i32 N) (.int .i64 ((t : Int) + 1)) _ rfl
  rw [o3] at a3
  have a2' := a2.trans (congrArg (fun c => some (Obj.cells c 55 (0, 0))) (show (eC (L.key r t) 0).setIfInBounds 4 (.int .i32 N) = eC (L.key r t) N from rfl))
  have a4' : Nodes _ g' (N + 1) cap' (linked xs (L.e r t) r pv N) := a4
  obtain ⟨w2, hw2⟩ : ∃ w2, w2 = ((((w1.setCell ⟨L.nb, 0, none⟩ (.slice (some ⟨g', 0, none⟩) (N + 1) cap')).setCell ⟨g', pv * 5 + 2, none⟩ (.int .i32 N)).setCell ⟨g', r * 5 + 1, none⟩ (.int .i32 N)).setCell ⟨L.e r t, 4, none⟩ (.int .i32 N)).setCell ⟨L.ob, 3 * r + 1 + 2, none⟩ (.int .i64 ((t : Int) + 1)) := ⟨_, rfl⟩
  rw [← hw2] at hw a1 a2' a3 a4' a5
  have hW : BesideG (fun x => x = L.ob ∨ x = L.nb ∨ x = na ∨ x = L.e r t) w (w2.drewN q) :=
    ⟨a5.os.trans hgr.os, a5.tape.trans hgr.tape, a5.output.trans hgr.output, Nat.le_trans hgr.size (Nat.le_of_eq a5.size.symm), fun b hb hs => (a5.block b (by omega)).trans (keep b hb (by omega))⟩
  rw [hw]
  refine ⟨he, g', ⟨block_drewN a3, ?_, ⟨cap', linked xs (L.e r t) r pv N, ⟨fr, block_drewN a1⟩, a4'.drewN q, fun s hs => ?_⟩, fun s hs i hi => ?_, fun s hs => ?_⟩, hg, hW⟩
  · refine (hW.block L.lb (lt hl) ?_).trans hl
    have z1 := ne_type hl hna (by decide)
    have z2 := ne_type hl ho (by decide)
    have z3 := ne_type hl hn (by decide)
    have z4 := ne_type hl hE (by decide)
    omega
  · by_cases hsr : s = r
    · subst hsr
      have := hCr.link hX.1 hr5 hb5 hN rfl
      rw [← hpv] at this
      simpa [upd] using this
    · have := (hC s hs).linkOther (r' := r) (b' := L.b r) (n' := t) (N := N) (eb := L.e r t) (by rcases hs with rfl | rfl <;> omega) hr5 hsr (by rcases hs with rfl | rfl; (have := hA.b3; omega); (have := hA.b4; omega)) hb5 (by have := hap s hs hsr; omega)
      rw [← hpv] at this
      simpa [upd, hsr] using this
  · by_cases hsi : s = r ∧ i = t
    · obtain ⟨rfl, rfl⟩ := hsi
      rw [block_drewN a2']
      simp [upd, hN]
    · have hks : i < k s := by
        unfold upd at hi
        split at hi
        · rename_i h; subst h; rw [hk0]; omega
        · exact hi
      have hEs := hEE s hs i hks
      have hne : L.e s i ≠ L.e r t := fun h => hsi (hA.ent s r i t hs hr hi (by simp [upd]) h)
      rw [hW.block _ (lt hEs) (by
        have z1 := ne_type hEs hna (by decide)
        have z2 := ne_type hEs ho (by decide)
        have z3 := ne_type hEs hn (by decide)
        omega), hEs]
      by_cases hsr : s = r
      · subst hsr
        have h1 : i < n s := by omega
        have h2 : i < upd n s (t + 1) s := by simp [upd]; omega
        simp only [h1, h2]
      · simp [upd, hsr]
  · have := hK s hs
    unfold upd
    split
    · exact Nat.le_refl _
    · exact this

theorem kvs_push (L : Lay) (n : Nat → Nat) (r t : Nat) (hr : R34 r) (hn : n r = t) (h3 : r = 3 → n 4 = 0) : kvs L (upd n r (t + 1)) = kvs L n ++ [(L.key r t, L.e r t)] := by
  rcases hr with rfl | rfl
  · simp [kvs, upd, h3 rfl, hn, List.range_succ]
  · simp [kvs, upd, hn, List.range_succ]
theorem kvs_fresh (L : Lay) (k n : Nat → Nat) (r t : Nat) (hr : R34 r) (hk0 : k r = t) (hA : Apart L (upd k r (t + 1))) (hK : ∀ r, R34 r → n r ≤ k r) : ∀ p ∈ kvs L n, p.1 ≠ L.key r t := by
  have key : ∀ s, R34 s → ∀ i, i < n s → L.key s i ≠ L.key r t := by
    intro s hs i hi h
    have hks := hK s hs
    have hlt : i < upd k r (t + 1) s := by unfold upd; split <;> rename_i hq <;> first | (subst hq; omega) | omega
    have := hA.keys s r i t hs hr hlt (by simp [upd]) h
    obtain ⟨rfl, rfl⟩ := this
    omega
  intro p hp
  rcases List.mem_append.1 hp with hp | hp
  · obtain ⟨i, hi, rfl⟩ := List.mem_map.1 hp
    exact key 3 (Or.inl rfl) i (List.mem_range.1 hi)
  · obtain ⟨i, hi, rfl⟩ := List.mem_map.1 hp
    exact key 4 (Or.inr rfl) i (List.mem_range.1 hi)

/-- A store of a new key, whatever has been drawn. -/
theorem map_put_all {w : World} {mb : Nat} {kv : List (ByteArray × Nat)} {k : ByteArray} {b : Nat} (h : MapIs w mb kv) (hp : ∀ p ∈ kv, p.1 ≠ k) :
    ∃ w', (∀ q, (Instr.mapUpdate 38 (.map (some mb)) (.string k) (.pointer (some ⟨b, 0, none⟩))).run Yba.prog (w.drewN q) = .ok () (w'.drewN q)) ∧ MapIs w' mb (kv ++ [(k, b)]) ∧ Beside (fun x => x = mb) w w' := by
  obtain ⟨es, clock, hb, he⟩ := h
  have hf := find_none k kv es.toList 0 hp he
  have hs := MapKept.heap_set hb (o' := .map (es.push { key := .string k, val := .pointer (some ⟨b, 0, none⟩), born := clock }) (clock + 1))
  refine ⟨{ w with heap := w.heap.setIfInBounds mb (.map (es.push { key := .string k, val := .pointer (some ⟨b, 0, none⟩), born := clock }) (clock + 1)) }, fun q => ?_, ⟨_, _, hs.1, ?_⟩, ⟨rfl, rfl, rfl, by simp, fun x hx => hs.2 x hx⟩⟩
  · have hbq : (w.drewN q).heap[mb]? = some (.map es clock) := hb
    simp [Instr.mapUpdate, run_underlying Yba.underlying38, MapKept.run_getObj_map hbq, MapKept.run_checkKey (d := .string) Yba.underlying9 (k := .string k) trivial, MapKept.run_findKey Yba.underlying9 hf, MapKept.run_setObj_map _ hbq]
    rfl
  · simp [he, kvOf]
end Trim
end Go.Proofs.Ybulkagbm
