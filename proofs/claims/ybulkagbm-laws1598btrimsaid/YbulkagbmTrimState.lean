/- THE STATE OF THE ORDER UNDER THE LAW: the struct, the row of nodes with its two chains, the map of ghosts, the entries; and what dropping the last entry of a chain, or linking one in, does to it. No walk here. -/
import Derived.Test.YbulkagbmTrimLink
import Derived.Test.YbulkagbmTrimMap
namespace Go.Proofs.Ybulkagbm
open Go.RowKit
theorem Beside.drewN {S : Nat → Prop} {w x : World} (h : Beside S w x) (q : Nat) : Beside S w (x.drewN q) := ⟨h.os, h.tape, h.output, h.size, h.block⟩
theorem Beside.undrawn {S : Nat → Prop} {w x : World} {q : Nat} (h : Beside S (w.drewN q) x) : Beside S w x := ⟨h.os, h.tape, h.output, h.size, h.block⟩
theorem Beside.join {S T : Nat → Prop} {a b c : World} (h : Beside S a b) (g : Beside T b c) (U : Nat → Prop) (hs : ∀ x, S x → U x) (ht : ∀ x, T x → U x) : Beside U a c := (h.mono hs).trans (g.mono ht)
namespace Trim

/-! ### A chain in the row of nodes (pure) -/
def back (r b n : Nat) : Nat := if n = 0 then r else b + n - 1
structure Chain (xs : List Value) (r b n : Nat) (e : Nat → Nat) : Prop where
  prev : xs[r * 5 + 1]? = some (.int .i32 (back r b n))
  next : ∃ v, xs[r * 5 + 2]? = some (.int .i32 v)
  ptr : ∀ i, i < n → xs[(b + i) * 5]? = some (.pointer (some ⟨e i, 0, none⟩))
  prv : ∀ i, i < n → xs[(b + i) * 5 + 1]? = some (.int .i32 (back r b i))
  nxt : ∀ i, i < n → xs[(b + i) * 5 + 2]? = some (.int .i32 (if i + 1 = n then r else b + i + 1 : Nat))
  lst : ∀ i, i < n → xs[(b + i) * 5 + 3]? = some (.int .i32 r)
  use : ∀ i, i < n → xs[(b + i) * 5 + 4]? = some (.int .u32 0)

/-- What remove and release do to the row. -/
def dropped (xs : List Value) (r pv nd : Nat) (fr : Int) : List Value :=
  (((((((xs.set (pv * 5 + 2) (.int .i32 r)).set (r * 5 + 1) (.int .i32 pv)).set (nd * 5 + 3) (.int .i32 (-1))).set (nd * 5) (.pointer none)).set (nd * 5 + 1) (.int .i32 0)).set (nd * 5 + 2) (.int .i32 fr)).set (nd * 5 + 3) (.int .i32 (-1))).set (nd * 5 + 4) (.int .u32 0)

theorem dropped_far {xs : List Value} {r pv nd : Nat} {fr : Int} {j : Nat} (h1 : j ≠ pv * 5 + 2) (h2 : j ≠ r * 5 + 1) (h3 : j < nd * 5 ∨ nd * 5 + 5 ≤ j) : (dropped xs r pv nd fr)[j]? = xs[j]? := by
  unfold dropped
  rw [List.getElem?_set_ne (by omega), List.getElem?_set_ne (by omega), List.getElem?_set_ne (by omega), List.getElem?_set_ne (by omega), List.getElem?_set_ne (by omega), List.getElem?_set_ne (by omega), List.getElem?_set_ne (by omega), List.getElem?_set_ne (by omega)]
theorem dropped_root {xs : List Value} {r pv nd : Nat} {fr : Int} (h : r < nd) (hl : r * 5 + 1 < xs.length) : (dropped xs r pv nd fr)[r * 5 + 1]? = some (.int .i32 pv) := by
  unfold dropped
  rw [List.getElem?_set_ne (by omega), List.getElem?_set_ne (by omega), List.getElem?_set_ne (by omega), List.getElem?_set_ne (by omega), List.getElem?_set_ne (by omega), List.getElem?_set_ne (by omega)]
  simp [hl]
theorem dropped_prev {xs : List Value} {r pv nd : Nat} {fr : Int} (h : pv < nd) (hl : pv * 5 + 2 < xs.length) : (dropped xs r pv nd fr)[pv * 5 + 2]? = some (.int .i32 r) := by
  unfold dropped
  rw [List.getElem?_set_ne (by omega), List.getElem?_set_ne (by omega), List.getElem?_set_ne (by omega), List.getElem?_set_ne (by omega), List.getElem?_set_ne (by omega), List.getElem?_set_ne (by omega), List.getElem?_set_ne (by omega)]
  simp [hl]

theorem lt_of_get {xs : List Value} {i : Nat} {v : Value} (h : xs[i]? = some v) : i < xs.length := (List.getElem?_eq_some_iff.1 h).1

theorem Chain.drop {xs : List Value} {r b m : Nat} {e : Nat → Nat} (h : Chain xs r b (m + 1) e) (hr : r < 5) (hb : 5 ≤ b) (fr : Int) : Chain (dropped xs r (back r b m) (b + m) fr) r b m e := by
  have hl1 := lt_of_get h.prev
  have hpv : back r b m < b + m ∧ (back r b m = r ∨ back r b m + 1 = b + m) := by unfold back; split <;> omega
  have hpl : back r b m * 5 + 2 < xs.length := by
    unfold back
    split
    · exact lt_of_get h.next.choose_spec
    · have := lt_of_get (h.nxt (m - 1) (by omega))
      have e : b + (m - 1) = b + m - 1 := by omega
      rw [e] at this; exact this
  have hback : ∀ i, i < m → b + i = back r b m → i + 1 = m := by intro i hi; unfold back; split <;> omega
  have hback2 : ∀ i, i < m → i + 1 = m → b + i = back r b m := by intro i hi; unfold back; split <;> omega
  refine ⟨dropped_root (by omega) hl1, ?_, fun i hi => ?_, fun i hi => ?_, fun i hi => ?_, fun i hi => ?_, fun i hi => ?_⟩
  · by_cases hp : back r b m = r
    · exact ⟨_, by have := dropped_prev (xs := xs) (r := r) (fr := fr) hpv.1 hpl; rw [hp] at this ⊢; exact this⟩
    · obtain ⟨v, hv⟩ := h.next
      exact ⟨v, by rw [dropped_far (by omega) (by omega) (by omega)]; exact hv⟩
  · rw [dropped_far (by omega) (by omega) (by omega)]; exact h.ptr i (by omega)
  · rw [dropped_far (by omega) (by omega) (by omega)]; exact h.prv i (by omega)
  · by_cases hq : i + 1 = m
    · rw [hback2 i hi hq, dropped_prev hpv.1 hpl, if_pos hq]
    · rw [dropped_far (by have := hback i hi; omega) (by omega) (by omega), h.nxt i (by omega), if_neg (by omega), if_neg hq]
  · rw [dropped_far (by omega) (by omega) (by omega)]; exact h.lst i (by omega)
  · rw [dropped_far (by omega) (by omega) (by omega)]; exact h.use i (by omega)

theorem Chain.dropOther {xs : List Value} {r b n r' b' m : Nat} {e : Nat → Nat} (h : Chain xs r b n e) (hr : r < 5) (hr' : r' < 5) (hne : r ≠ r') (hb : 5 ≤ b) (hb' : 5 ≤ b') (hap : b + n ≤ b' ∨ b' + m + 1 ≤ b) (fr : Int) :
    Chain (dropped xs r' (back r' b' m) (b' + m) fr) r b n e := by
  have hpv : back r' b' m = r' ∨ (b' ≤ back r' b' m ∧ back r' b' m + 1 = b' + m) := by unfold back; split <;> omega
  refine ⟨?_, ?_, fun i hi => ?_, fun i hi => ?_, fun i hi => ?_, fun i hi => ?_, fun i hi => ?_⟩
  · rw [dropped_far (by omega) (by omega) (by omega)]; exact h.prev
  · obtain ⟨v, hv⟩ := h.next
    exact ⟨v, by rw [dropped_far (by omega) (by omega) (by omega)]; exact hv⟩
  · rw [dropped_far (by omega) (by omega) (by omega)]; exact h.ptr i hi
  · rw [dropped_far (by omega) (by omega) (by omega)]; exact h.prv i hi
  · rw [dropped_far (by omega) (by omega) (by omega)]; exact h.nxt i hi
  · rw [dropped_far (by omega) (by omega) (by omega)]; exact h.lst i hi
  · rw [dropped_far (by omega) (by omega) (by omega)]; exact h.use i hi

/-- What link does to the row. -/
def linked (xs : List Value) (eb r pv N : Nat) : List Value :=
  ((xs ++ [Value.pointer (some ⟨eb, 0, none⟩), .int .i32 pv, .int .i32 r, .int .i32 r, .int .u32 0]).set (pv * 5 + 2) (.int .i32 N)).set (r * 5 + 1) (.int .i32 N)
theorem linked_far {xs : List Value} {eb r pv N j : Nat} (h1 : j ≠ pv * 5 + 2) (h2 : j ≠ r * 5 + 1) (h3 : j < xs.length) : (linked xs eb r pv N)[j]? = xs[j]? := by
  unfold linked
  rw [List.getElem?_set_ne (by omega), List.getElem?_set_ne (by omega), List.getElem?_append_left h3]
theorem linked_new {xs : List Value} {eb r pv N : Nat} (hl : xs.length = N * 5) (hr : r < N) (hp : pv < N) (j : Nat) :
    (linked xs eb r pv N)[N * 5 + j]? = [Value.pointer (some ⟨eb, 0, none⟩), .int .i32 pv, .int .i32 r, .int .i32 r, .int .u32 0][j]? := by
  unfold linked
  rw [List.getElem?_set_ne (by omega), List.getElem?_set_ne (by omega), List.getElem?_append_right (by omega), hl, Nat.add_sub_cancel_left]
theorem linked_root {xs : List Value} {eb r pv N : Nat} (hl : r * 5 + 1 < xs.length) : (linked xs eb r pv N)[r * 5 + 1]? = some (.int .i32 N) := by
  unfold linked
  rw [List.getElem?_set_self (by simp; omega)]
theorem linked_prev {xs : List Value} {eb r pv N : Nat} (hl : pv * 5 + 2 < xs.length) : (linked xs eb r pv N)[pv * 5 + 2]? = some (.int .i32 N) := by
  unfold linked
  rw [List.getElem?_set_ne (by omega), List.getElem?_set_self (by simp; omega)]

theorem Chain.link {xs : List Value} {r b n N eb : Nat} {e : Nat → Nat} (h : Chain xs r b n e) (hl : xs.length = N * 5) (hr : r < 5) (hb : 5 ≤ b) (hN : N = b + n) (he : e n = eb) : Chain (linked xs eb r (back r b n) N) r b (n + 1) e := by
  have hl1 := lt_of_get h.prev
  have hpv : back r b n < N ∧ (back r b n = r ∨ back r b n + 1 = N) := by unfold back; split <;> omega
  have hpl : back r b n * 5 + 2 < xs.length := by omega
  have hback : ∀ i, i < n → b + i = back r b n → i + 1 = n := by intro i hi; unfold back; split <;> omega
  have hback2 : ∀ i, i < n → i + 1 = n → b + i = back r b n := by intro i hi; unfold back; split <;> omega
  have hbs : back r b (n + 1) = N := by unfold back; split <;> omega
  have hn := fun j => linked_new (xs := xs) (eb := eb) (r := r) (pv := back r b n) hl (by omega) hpv.1 j
  refine ⟨by rw [hbs]; exact linked_root hl1, ?_, fun i hi => ?_, fun i hi => ?_, fun i hi => ?_, fun i hi => ?_, fun i hi => ?_⟩
  · by_cases hp : back r b n = r
    · exact ⟨_, by have := linked_prev (eb := eb) (r := r) (N := N) hpl; rw [hp] at this ⊢; exact this⟩
    · obtain ⟨v, hv⟩ := h.next
      exact ⟨v, by rw [linked_far (by omega) (by omega) (lt_of_get hv)]; exact hv⟩
  · by_cases hq : i = n
    · subst hq; rw [← hN, he]; exact hn 0
    · rw [linked_far (by omega) (by omega) (lt_of_get (h.ptr i (by omega)))]; exact h.ptr i (by omega)
  · by_cases hq : i = n
    · subst hq; rw [← hN]; exact hn 1
    · rw [linked_far (by omega) (by omega) (lt_of_get (h.prv i (by omega)))]; exact h.prv i (by omega)
  · by_cases hq : i = n
    · subst hq; rw [← hN, if_pos rfl]; exact hn 2
    · by_cases hs : i + 1 = n
      · have hq2 := hback2 i (by omega) hs
        rw [hq2, linked_prev hpl, if_neg (by omega), show back r b n + 1 = N by omega]
      · rw [linked_far (by have := hback i; omega) (by omega) (lt_of_get (h.nxt i (by omega))), h.nxt i (by omega), if_neg (by omega), if_neg (by omega)]
  · by_cases hq : i = n
    · subst hq; rw [← hN]; exact hn 3
    · rw [linked_far (by omega) (by omega) (lt_of_get (h.lst i (by omega)))]; exact h.lst i (by omega)
  · by_cases hq : i = n
    · subst hq; rw [← hN]; exact hn 4
    · rw [linked_far (by omega) (by omega) (lt_of_get (h.use i (by omega)))]; exact h.use i (by omega)

theorem Chain.linkOther {xs : List Value} {r b n r' b' n' N eb : Nat} {e : Nat → Nat} (h : Chain xs r b n e) (hr : r < 5) (hr' : r' < 5) (hne : r ≠ r') (hb : 5 ≤ b) (hb' : 5 ≤ b') (hap : b + n ≤ b' ∨ b' + n' ≤ b) :
    Chain (linked xs eb r' (back r' b' n') N) r b n e := by
  have hpv : back r' b' n' = r' ∨ (b' ≤ back r' b' n' ∧ back r' b' n' + 1 = b' + n') := by unfold back; split <;> omega
  refine ⟨?_, ?_, fun i hi => ?_, fun i hi => ?_, fun i hi => ?_, fun i hi => ?_, fun i hi => ?_⟩
  · rw [linked_far (by omega) (by omega) (lt_of_get h.prev)]; exact h.prev
  · obtain ⟨v, hv⟩ := h.next
    exact ⟨v, by rw [linked_far (by omega) (by omega) (lt_of_get hv)]; exact hv⟩
  · rw [linked_far (by omega) (by omega) (lt_of_get (h.ptr i hi))]; exact h.ptr i hi
  · rw [linked_far (by omega) (by omega) (lt_of_get (h.prv i hi))]; exact h.prv i hi
  · rw [linked_far (by omega) (by omega) (lt_of_get (h.nxt i hi))]; exact h.nxt i hi
  · rw [linked_far (by omega) (by omega) (lt_of_get (h.lst i hi))]; exact h.lst i hi
  · rw [linked_far (by omega) (by omega) (lt_of_get (h.use i hi))]; exact h.use i hi

/-! ### The state -/
structure Lay where
  ob : Nat
  nb : Nat
  lb : Nat
  mb : Nat
  x1 : Int
  x2 : Int
  x3 : Int
  b : Nat → Nat
  e : Nat → Nat → Nat
  key : Nat → Nat → ByteArray

def oC (L : Lay) (n : Nat → Nat) (gb mx : Int) : Array Value :=
  #[.pointer (some ⟨L.nb, 0, none⟩), .pointer (some ⟨L.nb, 0, none⟩), .int .i32 0, .int .i64 L.x1, .pointer (some ⟨L.nb, 0, none⟩), .int .i32 1, .int .i64 L.x2, .pointer (some ⟨L.nb, 0, none⟩), .int .i32 2, .int .i64 L.x3,
    .pointer (some ⟨L.nb, 0, none⟩), .int .i32 3, .int .i64 (n 3), .pointer (some ⟨L.nb, 0, none⟩), .int .i32 4, .int .i64 (n 4), .map (some L.mb), .int .i64 gb, .int .i64 mx,
    .int .u64 0, .slice none 0 0, .int .i64 0, .int .i64 0, .int .i64 0, .int .i64 0, .int .i64 0, .pointer none, .bool false, .int .i64 0, .int .i64 0, .int .i64 0, .int .u32 0, .int .u32 0, .int .u32 0, .int .u32 0]
def eC (k : ByteArray) (nd : Nat) : Array Value := #[.string k, .slice none 0 0, .int .i64 0, .int .i32 0, .int .i32 nd]
def lC (L : Lay) : Array Value := #[.pointer (some ⟨L.ob, 1, none⟩), .pointer (some ⟨L.ob, 4, none⟩), .pointer (some ⟨L.ob, 7, none⟩), .pointer (some ⟨L.ob, 10, none⟩), .pointer (some ⟨L.ob, 13, none⟩)]
def upd (n : Nat → Nat) (r m : Nat) : Nat → Nat := fun s => if s = r then m else n s
def kvs (L : Lay) (n : Nat → Nat) : List (ByteArray × Nat) := (List.range (n 3)).map (fun i => (L.key 3 i, L.e 3 i)) ++ (List.range (n 4)).map (fun i => (L.key 4 i, L.e 4 i))
def R34 (r : Nat) : Prop := r = 3 ∨ r = 4

structure St (L : Lay) (w : World) (na N : Nat) (k n : Nat → Nat) (gb mx : Int) : Prop where
  ho : w.heap[L.ob]? = some (.cells (oC L n gb mx) 42 (0, 0))
  hl : w.heap[L.lb]? = some (.cells (lC L) 50 (0, 0))
  hn : ∃ cap xs, (∃ fr : Int, w.heap[L.nb]? = some (.cells #[.slice (some ⟨na, 0, none⟩) N cap, .slice (some ⟨L.lb, 0, none⟩) 5 5, .int .i32 fr] 46 (0, 0))) ∧ Nodes w na N cap xs ∧ ∀ r, R34 r → Chain xs r (L.b r) (n r) (L.e r)
  hm : MapIs w L.mb (kvs L n)
  he : ∀ r, R34 r → ∀ i, i < k r → w.heap[L.e r i]? = some (.cells (eC (L.key r i) (if i < n r then L.b r + i else 0)) 55 (0, 0))
  hk : ∀ r, R34 r → n r ≤ k r

/-- What tells the entries and their keys apart; where the two chains lie. -/
structure Apart (L : Lay) (k : Nat → Nat) : Prop where
  ent : ∀ r s i j, R34 r → R34 s → i < k r → j < k s → L.e r i = L.e s j → r = s ∧ i = j
  keys : ∀ r s i j, R34 r → R34 s → i < k r → j < k s → L.key r i = L.key s j → r = s ∧ i = j
  b3 : L.b 3 = 5
  b4 : 5 + k 3 ≤ L.b 4
  size : ∀ r i, R34 r → i < k r → (L.key r i).size ≤ 13
  k1 : k 3 ≤ 1024
  k2 : k 4 ≤ 1024

def touch (L : Lay) (na : Nat) (k : Nat → Nat) (x : Nat) : Prop := x = L.ob ∨ x = L.nb ∨ x = na ∨ x = L.mb ∨ ∃ r i, R34 r ∧ i < k r ∧ x = L.e r i

theorem St.alike {L : Lay} {w w' : World} {na N : Nat} {k n : Nat → Nat} {gb mx : Int} (h : St L w na N k n gb mx) (e : w'.heap = w.heap) : St L w' na N k n gb mx := by
  obtain ⟨h1, h2, ⟨cap, xs, h3, h4, h5⟩, h6, h7, h8⟩ := h
  exact ⟨by rw [e]; exact h1, by rw [e]; exact h2, ⟨cap, xs, by rw [e]; exact h3, h4.of_block (by rw [e]), h5⟩, h6.of_block (by rw [e]), by rw [e]; exact h7, h8⟩

theorem after_remove {w : World} {ob na N cap : Nat} {oc : Array Value} {xs : List Value} (ho : w.heap[ob]? = some (.cells oc 42 (0, 0))) (hX : Nodes w na N cap xs) (d : ob ≠ na) (p1 p2 p3 o : Nat) (v1 v2 v3 v4 : Value) :
    ((((w.setCell ⟨na, p1, none⟩ v1).setCell ⟨na, p2, none⟩ v2).setCell ⟨na, p3, none⟩ v3).setCell ⟨ob, o, none⟩ v4).heap[ob]? = some (.cells (oc.setIfInBounds o v4) 42 (0, 0)) ∧
    Nodes ((((w.setCell ⟨na, p1, none⟩ v1).setCell ⟨na, p2, none⟩ v2).setCell ⟨na, p3, none⟩ v3).setCell ⟨ob, o, none⟩ v4) na N cap (((xs.set p1 v1).set p2 v2).set p3 v3) ∧
    Beside (fun x => x = na ∨ x = ob) w ((((w.setCell ⟨na, p1, none⟩ v1).setCell ⟨na, p2, none⟩ v2).setCell ⟨na, p3, none⟩ v3).setCell ⟨ob, o, none⟩ v4) := by
  refine ⟨?_, (((hX.set p1 v1).set p2 v2).set p3 v3).setOther (Ne.symm d) _, ?_⟩
  · refine setCell_block ?_ o v4
    rw [Below.heap_setCell _ _ _ _ d, Below.heap_setCell _ _ _ _ d, Below.heap_setCell _ _ _ _ d]
    exact ho
  · exact ((((Beside.refl (fun x => x = na ∨ x = ob) w).setCell ⟨na, p1, none⟩ (Or.inl rfl) _).setCell ⟨na, p2, none⟩ (Or.inl rfl) _).setCell ⟨na, p3, none⟩ (Or.inl rfl) _).setCell ⟨ob, o, none⟩ (Or.inr rfl) _

theorem after_release {w : World} {nb eb na N cap : Nat} {nc ec : Array Value} {xs : List Value} (hn : w.heap[nb]? = some (.cells nc 46 (0, 0))) (he : w.heap[eb]? = some (.cells ec 55 (0, 0))) (hX : Nodes w na N cap xs) (d1 : eb ≠ na) (d2 : nb ≠ na) (d3 : eb ≠ nb)
    (p1 p2 p3 p4 p5 : Nat) (v1 v2 v3 v4 v5 v6 v7 : Value) (w' : World)
    (hw : w' = ((((((w.setCell ⟨na, p1, none⟩ v1).setCell ⟨na, p2, none⟩ v2).setCell ⟨na, p3, none⟩ v3).setCell ⟨na, p4, none⟩ v4).setCell ⟨na, p5, none⟩ v5).setCell ⟨nb, 2, none⟩ v6).setCell ⟨eb, 4, none⟩ v7) :
    w'.heap[nb]? = some (.cells (nc.setIfInBounds 2 v6) 46 (0, 0)) ∧ w'.heap[eb]? = some (.cells (ec.setIfInBounds 4 v7) 55 (0, 0)) ∧
    Nodes w' na N cap (((((xs.set p1 v1).set p2 v2).set p3 v3).set p4 v4).set p5 v5) ∧ Beside (fun x => x = na ∨ x = nb ∨ x = eb) w w' := by
  subst hw
  refine ⟨?_, ?_, ((((((hX.set p1 v1).set p2 v2).set p3 v3).set p4 v4).set p5 v5).setOther (Ne.symm d2) _).setOther (Ne.symm d1) _, ?_⟩
  · rw [Below.heap_setCell _ _ _ _ (Ne.symm d3)]
    refine setCell_block ?_ 2 v6
    rw [Below.heap_setCell _ _ _ _ d2, Below.heap_setCell _ _ _ _ d2, Below.heap_setCell _ _ _ _ d2, Below.heap_setCell _ _ _ _ d2, Below.heap_setCell _ _ _ _ d2]
    exact hn
  · refine setCell_block ?_ 4 v7
    rw [Below.heap_setCell _ _ _ _ d3, Below.heap_setCell _ _ _ _ d1, Below.heap_setCell _ _ _ _ d1, Below.heap_setCell _ _ _ _ d1, Below.heap_setCell _ _ _ _ d1, Below.heap_setCell _ _ _ _ d1]
    exact he
  · exact (((((((Beside.refl (fun x => x = na ∨ x = nb ∨ x = eb) w).setCell ⟨na, p1, none⟩ (Or.inl rfl) _).setCell ⟨na, p2, none⟩ (Or.inl rfl) _).setCell ⟨na, p3, none⟩ (Or.inl rfl) _).setCell ⟨na, p4, none⟩ (Or.inl rfl) _).setCell ⟨na, p5, none⟩ (Or.inl rfl) _).setCell ⟨nb, 2, none⟩ (Or.inr (Or.inl rfl)) _).setCell ⟨eb, 4, none⟩ (Or.inr (Or.inr rfl)) _

/-- The last entry of chain r leaves the list of keys. -/
theorem kvs_drop (L : Lay) (k n : Nat → Nat) (hA : Apart L k) (hk : ∀ r, R34 r → n r ≤ k r) (r m : Nat) (hr : R34 r) (hm : n r = m + 1) :
    ∃ pre post, kvs L n = pre ++ (L.key r m, L.e r m) :: post ∧ kvs L (upd n r m) = pre ++ post ∧ ∀ p ∈ pre, p.1 ≠ L.key r m := by
  have hk3 := hk 3 (Or.inl rfl)
  have hk4 := hk 4 (Or.inr rfl)
  rcases hr with rfl | rfl
  · refine ⟨(List.range m).map (fun i => (L.key 3 i, L.e 3 i)), (List.range (n 4)).map (fun i => (L.key 4 i, L.e 4 i)), ?_, ?_, ?_⟩
    · simp [kvs, hm, List.range_succ]
    · simp [kvs, upd]
    · intro p hp
      obtain ⟨i, hi, rfl⟩ := List.mem_map.1 hp
      have hi := List.mem_range.1 hi
      intro h
      have := (hA.keys 3 3 i m (Or.inl rfl) (Or.inl rfl) (by omega) (by omega) h).2
      omega
  · refine ⟨(List.range (n 3)).map (fun i => (L.key 3 i, L.e 3 i)) ++ (List.range m).map (fun i => (L.key 4 i, L.e 4 i)), [], ?_, ?_, ?_⟩
    · simp [kvs, hm, List.range_succ]
    · simp [kvs, upd]
    · intro p hp h
      rcases List.mem_append.1 hp with hp | hp
      · obtain ⟨i, hi, rfl⟩ := List.mem_map.1 hp
        have hi := List.mem_range.1 hi
        have := (hA.keys 3 4 i m (Or.inl rfl) (Or.inr rfl) (by omega) (by omega) h).1
        omega
      · obtain ⟨i, hi, rfl⟩ := List.mem_map.1 hp
        have hi := List.mem_range.1 hi
        have := (hA.keys 4 4 i m (Or.inr rfl) (Or.inr rfl) (by omega) (by omega) h).2
        omega
end Trim
end Go.Proofs.Ybulkagbm
