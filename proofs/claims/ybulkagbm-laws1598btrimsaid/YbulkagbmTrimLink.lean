/- THE CONTRACT OF 'zzs1598blink' (function 12): a node appended to the row of nodes (in place, or in a new row) and linked in at the back. -/
import Derived.Test.YbulkagbmTrimReads
import Derived.RegionTactic
import Derived.BigRegion
import Derived.Deep.RegionLaw
import Derived.Deep.CutRange
import Derived.Laws.AppendOwn
namespace Go.Proofs.Ybulkagbm
open Go.RowKit
namespace Trim

/-- Block g is a row of nodes: its first cells are xs (N nodes of five cells), room for cap nodes. -/
def Nodes (w : World) (g N cap : Nat) (xs : List Value) : Prop :=
  xs.length = N * 5 ∧ N ≤ cap ∧ cap ≤ maxLen ∧ ∃ cur : Array Value, w.heap[g]? = some (.cells cur 49 (0, 0)) ∧ cur.size = cap * 5 ∧ cur.toList.take (N * 5) = xs

theorem Nodes.cell {w : World} {g N cap : Nat} {xs : List Value} (h : Nodes w g N cap xs) {i : Nat} {v : Value} (hi : xs[i]? = some v) : w.cell? ⟨g, i, none⟩ = some v := by
  obtain ⟨_, _, _, cur, hg, _, ht⟩ := h
  rw [← ht, List.getElem?_take] at hi
  split at hi
  · simpa [World.cell?, hg] using hi
  · cases hi
theorem Nodes.frozen {w : World} {g N cap : Nat} {xs : List Value} (h : Nodes w g N cap xs) (i : Nat) : w.frozen? ⟨g, i, none⟩ = false := by
  obtain ⟨_, _, _, cur, hg, _, _⟩ := h
  simp [World.frozen?, hg]
theorem Nodes.lt {w : World} {g N cap : Nat} {xs : List Value} (h : Nodes w g N cap xs) : g < w.heap.size := by
  obtain ⟨_, _, _, cur, hg, _, _⟩ := h
  exact (Array.getElem?_eq_some_iff.1 hg).1
theorem Nodes.of_block {w w' : World} {g N cap : Nat} {xs : List Value} (h : Nodes w g N cap xs) (e : w'.heap[g]? = w.heap[g]?) : Nodes w' g N cap xs := by
  obtain ⟨h1, h2, h3, cur, hg, h4, h5⟩ := h
  exact ⟨h1, h2, h3, cur, e.trans hg, h4, h5⟩
theorem Nodes.set {w : World} {g N cap : Nat} {xs : List Value} (h : Nodes w g N cap xs) (i : Nat) (v : Value) : Nodes (w.setCell ⟨g, i, none⟩ v) g N cap (xs.set i v) := by
  obtain ⟨h1, h2, h3, cur, hg, h4, h5⟩ := h
  refine ⟨by simpa using h1, h2, h3, cur.setIfInBounds i v, setCell_block hg i v, by simpa using h4, ?_⟩
  rw [← h5]
  simp [List.take_set]
theorem Nodes.setOther {w : World} {g N cap : Nat} {xs : List Value} (h : Nodes w g N cap xs) {a : Addr} (ha : g ≠ a.block) (v : Value) : Nodes (w.setCell a v) g N cap xs :=
  h.of_block (Below.heap_setCell _ _ _ _ ha)

theorem Nodes.owns {w : World} {g N cap : Nat} {xs : List Value} (h : Nodes w g N cap xs) : w.ownsRow 0 49 5 (.slice (some ⟨g, 0, none⟩) N cap) N xs := by
  obtain ⟨h1, h2, h3, cur, hg, h4, h5⟩ := h
  exact ⟨h1, .inr ⟨g, cap, cur, rfl, Nat.zero_le _, hg, h2, h3, h4, h5⟩⟩

theorem info49 : (Yba.prog.info? 49).map (fun i => (i.zero, i.size, i.bytes)) = some (some (.agg #[.pointer none, .int .i32 0, .int .i32 0, .int .i32 0, .int .u32 0]), 5, 24) := by kernel_rfl

/-- 'append(ns.nodes, node{..})' as one step of a region that draws. -/
theorem step_append_node {ops : Array Oper} {o : Oper} {a : Act} {w : World} {K : Act → World → Prop} {Q : Exit → Act → World → Prop} {E : Prop}
    (hgd : o.guard = none) (s x : Operand) (hop : o.op = Op.call { callee := Callee.builtin Builtin.append, args := #[s, x], argTypes := #[43, 43] })
    (g N cap : Nat) (xs : List Value) (hown : Nodes w g N cap xs) (hs : a.eval s = .slice (some ⟨g, 0, none⟩) N cap)
    (ad : Addr) (c : Nat) (news : List Value) (hx : a.eval x = .slice (some ad) 1 c) (hn : news.length = 5) (hc : ∀ j u, news[j]? = some u → w.cell? (ad.add j) = some u) (h1c : ∀ u ∈ news, u.oneCell' = true)
    (hN : N ≤ 100000)
    (hK : ∀ g' cap' w', Nodes w' g' (N + 1) cap' (xs ++ news) → (g' = g ∨ w.heap.size ≤ g') → w.grownBy w' (some g) → K (a.put o.dst (.slice (some ⟨g', 0, none⟩) (N + 1) cap')) w') :
    if Region.wanted o (yielded ops a.tmps) = true then Oper.wp Yba.prog o a w K Q else E := by
  have hw : Region.wanted o (yielded ops a.tmps) = true := by simp [Region.wanted, hgd]
  rw [if_pos hw]
  obtain ⟨i0, hi, hz0, hz1, hz2⟩ := info_parts info49
  have hX := hown
  obtain ⟨x1, x2, x3, cur, hg, x4, x5⟩ := hX
  by_cases hroom : N + 1 ≤ cap
  · have hrun := run_append_room (P := Yba.prog) w 43 o.type 49 i0 Yba.underlying43 hi g N cap cur hg ad 1 c news (by rw [hz1, hn]) hc h1c hroom (by rw [hz1, hn, x4]; omega)
    rw [hz1, hn] at hrun
    unfold Oper.wp
    simp [execOp, hop, resolve, invoke, builtin, hs, hx, hrun, Result.andThen]
    refine hK g cap _ ?_ (Or.inl rfl) ⟨rfl, rfl, rfl, by simp, fun k hk hne => setRow_other w g k _ (fun e => hne (by rw [e]))⟩
    have hl : cur.toList.length = cap * 5 := by simpa using x4
    refine ⟨by simp [x1, hn]; omega, hroom, x3, _, setRow_heap w g _ _ 49 _ hg, ?_, ?_⟩
    · simp [hn, hl]; omega
    · rw [← x5, ← List.append_assoc, List.take_append_of_le_length (by simp [hn, hl]; omega)]
      exact List.take_of_length_le (by simp [hn, hl]; omega)
  · obtain ⟨v', w', hrun, r1, r2⟩ := run_append_arg_grows (P := Yba.prog) w 43 o.type 49 i0 (.agg #[.pointer none, .int .i32 0, .int .i32 0, .int .i32 0, .int .u32 0]) 5 24 Yba.underlying43 hi hz0 hz1 hz2 rfl (by omega) ⟨g, 0, none⟩ N cap xs x1
      (fun j u hu => by rw [Addr.add_lit, Nat.zero_add]; exact hown.cell hu) ad 1 c news hn hc (by omega) (by unfold maxLen; omega) (by omega)
    rcases r1.2 with ⟨_, h⟩ | ⟨g', cap', cur', rfl, hb', hg', h2, h3, h4, h5⟩
    · omega
    · unfold Oper.wp
      simp [execOp, hop, resolve, invoke, builtin, hs, hx, hrun, Result.andThen]
      exact hK g' cap' w' ⟨r1.1, h2, h3, cur', hg', h4, h5⟩ (Or.inr hb') ⟨r2.os, r2.tape, r2.output, r2.size, fun k hk _ => r2.block k hk (by simp)⟩

set_option maxHeartbeats 1600000 in
theorem link (ob off nb na eb N cap root pv : Nat) (xs : List Value) (n : Int) (w : World) (hN : N ≤ 100000)
    (h0 : w.cell? ⟨nb, 0, none⟩ = some (.slice (some ⟨na, 0, none⟩) N cap)) (hr : w.cell? ⟨ob, off + 1, none⟩ = some (.int .i32 root)) (hrN : root < N) (hpN : pv < N)
    (hX : Nodes w na N cap xs) (hpv : xs[root * 5 + 1]? = some (.int .i32 pv)) (c2 : ∃ v, xs[pv * 5 + 2]? = some (.int .i32 v)) 
    (hn : w.cell? ⟨ob, off + 2, none⟩ = some (.int .i64 n)) (hn1 : 0 ≤ n ∧ n ≤ 100000) (he : ∃ v, w.cell? ⟨eb, 4, none⟩ = some (.int .i32 v))
    (f0 : w.frozen? ⟨nb, 0, none⟩ = false) (f1 : w.frozen? ⟨ob, off + 2, none⟩ = false) (f2 : w.frozen? ⟨eb, 4, none⟩ = false)
    (d1 : ob ≠ na) (d2 : nb ≠ na) (d3 : eb ≠ na) (d4 : ob ≠ nb) (d5 : eb ≠ nb) (d6 : eb ≠ ob) :
    Calls Yba.prog 12 #[.pointer (some ⟨nb, 0, none⟩), .pointer (some ⟨ob, off, none⟩), .pointer (some ⟨eb, 0, none⟩)] w fun e w' => e = .returned (.tuple #[]) ∧
      ∃ g' cap' w1 q, w' = (((((w1.setCell ⟨nb, 0, none⟩ (.slice (some ⟨g', 0, none⟩) (N + 1) cap')).setCell ⟨g', pv * 5 + 2, none⟩ (.int .i32 N)).setCell ⟨g', root * 5 + 1, none⟩ (.int .i32 N)).setCell ⟨eb, 4, none⟩ (.int .i32 N)).setCell ⟨ob, off + 2, none⟩ (.int .i64 (n + 1))).drewN q ∧
        Nodes w1 g' (N + 1) cap' (xs ++ [.pointer (some ⟨eb, 0, none⟩), .int .i32 pv, .int .i32 root, .int .i32 root, .int .u32 0]) ∧ (g' = na ∨ w.heap.size ≤ g') ∧ w.grownBy w1 (some na) := by
  have hpv' := hX.cell hpv
  obtain ⟨hn11, hn12⟩ := hn1
  obtain ⟨v2, c2⟩ := c2
  obtain ⟨ve, he⟩ := he
  have hlb : nb < w.heap.size := World.block_lt_of_cell? w _ h0
  have hlo : ob < w.heap.size := World.block_lt_of_cell? w _ hr
  have hle : eb < w.heap.size := World.block_lt_of_cell? w _ he
  have HA : Hid (∀ q o, Nodes ((w.drewN q).alloc o) na N cap xs) := fun q o => hX.of_block (heap_old _ _ _ hX.lt)
  have HC : Hid (∀ q, ∀ j u, [Value.pointer (some ⟨eb, 0, none⟩), .int .i32 pv, .int .i32 root, .int .i32 root, .int .u32 0][j]? = some u → ((w.drewN q).alloc (.cells #[.pointer (some ⟨eb, 0, none⟩), .int .i32 pv, .int .i32 root, .int .i32 root, .int .u32 0] 49)).cell? ((⟨w.heap.size, 0, none⟩ : Addr).add j) = some u) := by
    intro q j u hu
    rw [Addr.add_lit, Nat.zero_add, ← hu]
    exact (cell_block (heap_new (w.drewN q) _ _ rfl) j).trans (by simp)
  have HO : Hid (∀ u ∈ [Value.pointer (some ⟨eb, 0, none⟩), .int .i32 pv, .int .i32 root, .int .i32 root, .int .u32 0], u.oneCell' = true) := by
    intro u hu
    simp at hu
    rcases hu with rfl | rfl | rfl | rfl <;> rfl
  have HP : Hid (xs[pv * 5 + 2]? = some (.int .i32 v2)) := c2
  have HR : Hid (xs[root * 5 + 1]? = some (.int .i32 pv)) := hpv
  have hq0 : ∀ q o, ((w.drewN q).alloc o).cell? ⟨nb, 0, none⟩ = some (.slice (some ⟨na, 0, none⟩) N cap) := fun q o => (World.cell?_alloc_lt _ o _ hlb).trans h0
  clear hpv c2 hX
  go_enter Yba.func12, Yba.ntmps12
  go_wp2_with fail
  go_quiet (fail)
  go_wp2_with fail
  go_cut [] from 25 to 44 (fun wx => ∃ g' cap' w1, wx = w1.setCell ⟨nb, 0, none⟩ (.slice (some ⟨g', 0, none⟩) (N + 1) cap') ∧ Nodes w1 g' (N + 1) cap' (xs ++ [.pointer (some ⟨eb, 0, none⟩), .int .i32 pv, .int .i32 root, .int .i32 root, .int .u32 0]) ∧ (g' = na ∨ w.heap.size ≤ g') ∧ w.grownBy w1 (some na))
  case first =>
    go_region_law (refine step_append_node rfl (.tmp 29) (.tmp 41) rfl na N cap xs (HA.out _ _) rfl ⟨w.heap.size, 0, none⟩ 1 [.pointer (some ⟨eb, 0, none⟩), .int .i32 pv, .int .i32 root, .int .i32 root, .int .u32 0] rfl rfl (HC.out _) HO.out hN ?_; intro g' cap' w1 hX1 hg1 hgr1; have hgr : w.grownBy w1 (some na) := ⟨hgr1.os, hgr1.tape, hgr1.output, Nat.le_trans (by simp) hgr1.size, fun k hk hne => (hgr1.block k (by simp; omega) hne).trans (heap_old _ _ _ hk)⟩; have hg2 : g' = na ∨ w.heap.size ≤ g' := hg1.elim Or.inl (fun h => Or.inr (Nat.le_trans (by simp) h)); clear hgr1 hg1; have k0 : w1.cell? ⟨nb, 0, none⟩ = some (.slice (some ⟨na, 0, none⟩) N cap) := hgr.cell h0 (by simp; omega); have k1 : w1.frozen? ⟨nb, 0, none⟩ = false := (World.frozen?_of_block (w := w) (hgr.block nb hlb (by simp; omega))).trans f0)
    all_goals
      go_wp2_with fail
      go_meet
      case rel => exact ⟨_, _, _, rfl, ‹_›, ‹_›, ‹_›⟩
  case rest =>
    obtain ⟨g', cap', w1, rfl, hX1, hg1, hgr⟩ := hcut
    have n0 : nb ≠ g' := by omega
    have n1 : ob ≠ g' := by omega
    have n2 : eb ≠ g' := by omega
    have k1 : w1.cell? ⟨ob, off + 1, none⟩ = some (.int .i32 root) := hgr.cell hr (by simp; omega)
    have k2 : w1.cell? ⟨ob, off + 2, none⟩ = some (.int .i64 n) := hgr.cell hn (by simp; omega)
    have k3 : w1.cell? ⟨eb, 4, none⟩ = some (.int .i32 ve) := hgr.cell he (by simp; omega)
    have k4 : w1.cell? ⟨g', pv * 5 + 2, none⟩ = some (.int .i32 v2) := hX1.cell (by rw [List.getElem?_append_left (List.getElem?_eq_some_iff.1 HP.out).1]; exact HP.out)
    have k5 : w1.cell? ⟨g', root * 5 + 1, none⟩ = some (.int .i32 pv) := hX1.cell (by rw [List.getElem?_append_left (List.getElem?_eq_some_iff.1 HR.out).1]; exact HR.out)
    have k6 : w1.cell? ⟨nb, 0, none⟩ = some (.slice (some ⟨na, 0, none⟩) N cap) := hgr.cell h0 (by simp; omega)
    have z1 : w1.frozen? ⟨ob, off + 2, none⟩ = false := (World.frozen?_of_block (w := w) (hgr.block ob hlo (by simp; omega))).trans f1
    have z2 : w1.frozen? ⟨eb, 4, none⟩ = false := (World.frozen?_of_block (w := w) (hgr.block eb hle (by simp; omega))).trans f2
    have z3 := hX1.frozen (pv * 5 + 2)
    have z4 := hX1.frozen (root * 5 + 1)
    clear h0 hr hn he f0 f1 f2 hpv' hq0
    go_wp2_with fail
    go_region
    go_wp2_with fail
    go_end0
    exact ⟨rfl, g', cap', w1, 1, rfl, hX1, hg1, hgr⟩
end Trim
end Go.Proofs.Ybulkagbm
