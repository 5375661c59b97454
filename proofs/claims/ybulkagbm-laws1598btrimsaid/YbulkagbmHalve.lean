/- THE CONTRACT OF '(*frequencySketch).halve' (function 8): over a slice of words of the call's own, and over a nil one. -/
import Derived.Test.YbulkagbmRows
import Derived.WalkKit
import Derived.RegionTactic
import Derived.BigRegion
import Derived.Below
import Derived.Test.YbulkagbmBits
namespace Go.Proofs.Ybulkagbm
open Go.RowKit

/-- Beside the blocks of S the world w' is as w was, and no block has come or gone. -/
structure Beside (S : Nat → Prop) (w w' : World) : Prop where
  os : w'.os = w.os
  tape : w'.tape = w.tape
  output : w'.output = w.output
  size : w'.heap.size = w.heap.size
  block : ∀ b, ¬ S b → w'.heap[b]? = w.heap[b]?

theorem Beside.refl (S : Nat → Prop) (w : World) : Beside S w w := ⟨rfl, rfl, rfl, rfl, fun _ _ => rfl⟩
theorem Beside.setCell {S : Nat → Prop} {w w' : World} (h : Beside S w w') (a : Addr) (ha : S a.block) (v : Value) : Beside S w (w'.setCell a v) :=
  ⟨h.os, h.tape, h.output, by rw [← h.size]; simp [World.setCell], fun b hb => (Below.heap_setCell w' a v b (fun e => hb (by rw [e]; exact ha))).trans (h.block b hb)⟩
theorem Beside.drew {S : Nat → Prop} {w w' : World} (h : Beside S w w') : Beside S w w'.drew := ⟨h.os, h.tape, h.output, h.size, h.block⟩
theorem Beside.mono {S T : Nat → Prop} {w w' : World} (h : Beside S w w') (hs : ∀ b, S b → T b) : Beside T w w' := ⟨h.os, h.tape, h.output, h.size, fun b hb => h.block b (fun e => hb (hs b e))⟩
theorem Beside.trans {S : Nat → Prop} {a b c : World} (h : Beside S a b) (k : Beside S b c) : Beside S a c :=
  ⟨k.os.trans h.os, k.tape.trans h.tape, k.output.trans h.output, k.size.trans h.size, fun i hi => (k.block i hi).trans (h.block i hi)⟩
theorem Beside.below {S : Nat → Prop} {w w' : World} (h : Beside S w w') {B : Nat} (hS : ∀ b, S b → B ≤ b) : Below B w w' :=
  ⟨h.os, h.tape, h.output, by rw [h.size]; exact Nat.le_refl _, fun b hb => h.block b (fun e => by have := hS b e; omega)⟩

theorem cell_block {w : World} {g : Nat} {t : TypeId} {c : Array Value} (h : w.heap[g]? = some (.cells c t (0, 0))) (k : Nat) : w.cell? ⟨g, k, none⟩ = c[k]? := by
  simp [World.cell?, h]
theorem frozen_block {w : World} {g : Nat} {t : TypeId} {c : Array Value} (h : w.heap[g]? = some (.cells c t (0, 0))) (k : Nat) : w.frozen? ⟨g, k, none⟩ = false := by
  simp [World.frozen?, h]
theorem setCell_block {w : World} {g : Nat} {t : TypeId} {c : Array Value} (h : w.heap[g]? = some (.cells c t (0, 0))) (k : Nat) (v : Value) : (w.setCell ⟨g, k, none⟩ v).heap[g]? = some (.cells (c.setIfInBounds k v) t (0, 0)) := by
  simp [World.setCell, Array.getElem?_modify, h]

theorem heap_new (w : World) (o : Obj) (k : Nat) (hk : k = w.heap.size) : (w.alloc o).heap[k]? = some o := by subst hk; exact heap_alloc_new w o
theorem heap_old (w : World) (o : Obj) (k : Nat) (hk : k < w.heap.size) : (w.alloc o).heap[k]? = w.heap[k]? := Below.heap_alloc w o k hk

/-- One word halved, in the walk's spelling. -/
def hv (z : Int) : Int := bits BinOp.and IntKind.u64 (z / 2) 8608480567731124087
def hvs (zs : List Int) (k : Nat) : List Int := (zs.take k).map hv ++ zs.drop k
theorem hvs_get (zs : List Int) (k : Nat) (h : k < zs.length) : ((hvs zs k).map (Value.int .u64)).toArray[k]? = some (.int .u64 (zs.getD k 0)) := by
  have : min k zs.length = k := by omega
  simp [hvs, List.getElem?_append, this, h, List.getD]
theorem hvs_succ (zs : List Int) (k : Nat) (h : k < zs.length) : (((hvs zs k).map (Value.int .u64)).toArray).setIfInBounds k (.int .u64 (hv (zs.getD k 0))) = ((hvs zs (k + 1)).map (Value.int .u64)).toArray := by
  have hm : min k zs.length = k := by omega
  have hd : zs.drop k = zs.getD k 0 :: zs.drop (k + 1) := by rw [List.drop_eq_getElem_cons h]; simp [List.getD, h]
  have ht : zs.take (k + 1) = zs.take k ++ [zs.getD k 0] := by rw [List.take_succ_eq_append_getElem h]; simp [List.getD, h]
  rw [hvs, hd, hvs, ht]
  simp [hm]

theorem hvs_end (zs : List Int) : hvs zs zs.length = zs.map hv := by simp [hvs]

set_option maxHeartbeats 400000 in
theorem halve_some (sb g n : Nat) (s0 : Value) (a p : Int) (zs : List Int) (w : World) (hne : g ≠ sb) (hn : zs.length = n) (hn1 : n ≤ 1024)
    (hs : w.heap[sb]? = some (.cells #[s0, .slice (some ⟨g, 0, none⟩) n n, .int .i64 a, .int .i64 p] 28 (0, 0)))
    (hg : w.heap[g]? = some (.cells (zs.map (Value.int .u64)).toArray 24 (0, 0))) :
    Calls Yba.prog 8 #[.pointer (some ⟨sb, 0, none⟩)] w fun e w' => e = .returned (.tuple #[]) ∧ w'.heap[g]? = some (.cells ((zs.map hv).map (Value.int .u64)).toArray 24 (0, 0)) ∧
      w'.heap[sb]? = some (.cells #[s0, .slice (some ⟨g, 0, none⟩) n n, .int .i64 (wrap64 (a.tdiv 2)), .int .i64 p] 28 (0, 0)) ∧ Beside (fun b => b = g ∨ b = sb) w w' := by
  have h1 : w.cell? ⟨sb, 1, none⟩ = some (.slice (some ⟨g, 0, none⟩) n n) := cell_block hs 1
  have HS : Hid (w.heap[sb]? = some (.cells #[s0, .slice (some ⟨g, 0, none⟩) n n, .int .i64 a, .int .i64 p] 28 (0, 0))) := hs
  have HG : Hid (w.heap[g]? = some (.cells (zs.map (Value.int .u64)).toArray 24 (0, 0))) := hg
  have HN : Hid (zs.length = n) := hn
  clear hs hg hn
  go_enter Yba.func8, Yba.ntmps8
  go_wp2
  go_loopw [8] (fun i wr => ∃ k : Nat, k ≤ n ∧ i = .int .i64 k ∧ Hid (wr.heap[g]? = some (.cells ((hvs zs k).map (Value.int .u64)).toArray 24 (0, 0))) ∧ Beside (fun b => b = g) w wr) (fun i _ => n - (intOf i).toNat)
  case atStart => exact ⟨0, Nat.zero_le _, rfl, by have := HG.out; simpa [Hid, hvs] using this, Beside.refl _ _⟩
  case round =>
    obtain ⟨k, hk, rfl, HGr, hbr⟩ := hrel
    have HSr : Hid (wr.heap[sb]? = some (.cells #[s0, .slice (some ⟨g, 0, none⟩) n n, .int .i64 a, .int .i64 p] 28 (0, 0))) := (hbr.block sb (fun e => hne e.symm)).trans HS.out
    have h1r : wr.cell? ⟨sb, 1, none⟩ = some (.slice (some ⟨g, 0, none⟩) n n) := cell_block HSr.out 1
    by_cases hlt : k < n
    · have hc0 : wr.cell? ⟨g, k, none⟩ = some (.int .u64 (zs.getD k 0)) := (cell_block HGr.out k).trans (hvs_get zs k (by have := HN.out; omega))
      obtain ⟨z, hz⟩ : ∃ z, z = zs.getD k 0 := ⟨_, rfl⟩
      have hc : wr.cell? ⟨g, k, none⟩ = some (.int .u64 z) := by rw [hz]; exact hc0
      have HZ : Hid (z = zs.getD k 0) := hz
      clear hz hc0
      have hf : wr.frozen? ⟨g, k, none⟩ = false := frozen_block HGr.out k
      go_wp2
      go_region
      go_wp2
      go_roundw
      case rel =>
        refine ⟨k + 1, by omega, by go_num, ?_, (hbr.setCell _ rfl _).drew⟩
        have h3 := hvs_succ zs k (by have := HN.out; omega)
        rw [← HZ.out] at h3
        show (wr.setCell ⟨g, k, none⟩ _).heap[g]? = _
        rw [← h3]
        exact setCell_block HGr.out k _
      case measure => simp [intOf]; omega
    · have h2r : wr.cell? ⟨sb, 2, none⟩ = some (.int .i64 a) := cell_block HSr.out 2
      have f2r : wr.frozen? ⟨sb, 2, none⟩ = false := frozen_block HSr.out 2
      go_wp2
      go_end0
      have hkn : k = zs.length := by have := HN.out; omega
      refine ⟨rfl, ?_, setCell_block HSr.out 2 _, Beside.setCell (S := fun b => b = g ∨ b = sb) (hbr.mono fun b hb => Or.inl hb) ⟨sb, 2, none⟩ (Or.inr rfl) _⟩
      rw [Below.heap_setCell _ _ _ _ hne, HGr.out, hkn, hvs_end]

set_option maxHeartbeats 400000 in
theorem halve_none (sb : Nat) (s0 : Value) (a p : Int) (w : World)
    (hs : w.heap[sb]? = some (.cells #[s0, .slice none 0 0, .int .i64 a, .int .i64 p] 28 (0, 0))) :
    Calls Yba.prog 8 #[.pointer (some ⟨sb, 0, none⟩)] w fun e w' => e = .returned (.tuple #[]) ∧
      w'.heap[sb]? = some (.cells #[s0, .slice none 0 0, .int .i64 (wrap64 (a.tdiv 2)), .int .i64 p] 28 (0, 0)) ∧ Beside (fun b => b = sb) w w' := by
  have h1 : w.cell? ⟨sb, 1, none⟩ = some (.slice none 0 0) := cell_block hs 1
  have h2r : w.cell? ⟨sb, 2, none⟩ = some (.int .i64 a) := cell_block hs 2
  have f2r : w.frozen? ⟨sb, 2, none⟩ = false := frozen_block hs 2
  have HS : Hid (w.heap[sb]? = some (.cells #[s0, .slice none 0 0, .int .i64 a, .int .i64 p] 28 (0, 0))) := hs
  clear hs
  go_enter Yba.func8, Yba.ntmps8
  go_wp2
  refine wp_loop_rounds 1 ?_
  rw [rounds_succ]
  go_wp2
  go_end0
  exact ⟨rfl, setCell_block HS.out 2 _, Beside.setCell (S := fun b => b = sb) (Beside.refl _ _) ⟨sb, 2, none⟩ rfl _⟩

end Go.Proofs.Ybulkagbm
