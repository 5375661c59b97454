/- THE CONTRACT OF appendEscaped (function 11) at the three bytes that Raw hands it. -/
import Derived.Test.YbulkagcaOwn
import Derived.RegionTactic
import Derived.BigRegion
import Derived.Deep.RegionLaw
namespace Go.Proofs.Ybulkagca
open Go.RowKit

/-- append as one step of a region that draws. -/
theorem step_own {ops : Array Oper} {o : Oper} {a : Act} {w : World} {K : Act → World → Prop} {Q : Exit → Act → World → Prop} {E : Prop}
    (hgd : o.guard = none) (s x : Operand) (hop : o.op = Op.call { callee := Callee.builtin Builtin.append, args := #[s, x], argTypes := #[22, 22] })
    (B : Nat) (v : Value) (l : List Int) (hs : a.eval s = v) (hown : Own w B v l) (ad : Addr) (m c : Nat) (news : List Int) (hx : a.eval x = .slice (some ad) m c) (hl : news.length = m)
    (hnews : ∀ j, j < m → w.cell? (ad.add j) = some (.int .u8 (news.getD j 0))) (hsz : l.length + m ≤ 1000000) (hB : B ≤ w.heap.size)
    (hK : ∀ v' w', Own w' B v' (l ++ news) → Below B w w' → K (a.put o.dst v') w') :
    if Region.wanted o (yielded ops a.tmps) = true then Oper.wp Yba.prog o a w K Q else E := by
  have hw : Region.wanted o (yielded ops a.tmps) = true := by simp [Region.wanted, hgd]
  rw [if_pos hw]
  obtain ⟨i0, hi, hz0, hz1, hz2⟩ := info_parts info5
  obtain ⟨v', w', hrun, r1, r2, r3⟩ := run_append_own (P := Yba.prog) w B 22 o.type 5 i0 (.int .u8 0) 1 1 Yba.underlying22 hi hz0 hz1 hz2 rfl (by omega) v l.length (l.map (Value.int .u8)) hown ad m c (news.map (Value.int .u8)) (by simp [hl]) (by
    intro j u hu
    have hj : j < m := by have := (List.getElem?_eq_some_iff.1 hu).1; simp at this; omega
    rw [hnews j hj, ← hu]
    simp [List.getD, show j < news.length by omega]) (ints_oneCell _ _) (by unfold maxLen; omega) (by omega) hB
  unfold Oper.wp
  simp [execOp, hop, resolve, invoke, builtin, hs, hx, hrun, Result.andThen]
  refine hK v' w' ?_ (below_own hown hB r2)
  unfold Own
  rw [List.length_append, hl, List.map_append]
  exact r1

theorem new6 (w : World) (c0 c1 c2 c3 c4 c5 : Int) (j : Nat) (hj : j < 6) : (w.alloc (.cells #[.int .u8 c0, .int .u8 c1, .int .u8 c2, .int .u8 c3, .int .u8 c4, .int .u8 c5] 5)).cell? ((⟨w.heap.size, 0, none⟩ : Addr).add j) = some (.int .u8 ([c0, c1, c2, c3, c4, c5].getD j 0)) := by
  rw [Addr.add_lit, Nat.zero_add, World.cell?_alloc_at _ _ _ _ rfl]
  match j, hj with
  | 0, _ => rfl
  | 1, _ => rfl
  | 2, _ => rfl
  | 3, _ => rfl
  | 4, _ => rfl
  | 5, _ => rfl

set_option maxHeartbeats 800000 in
theorem esc60 (w : World) (B : Nat) (v : Value) (l : List Int) (hown : Own w B v l) (hsz : l.length + 6 ≤ 1000000) (hB : B ≤ w.heap.size) :
    Calls Yba.prog 11 #[v, .int .u8 60] w fun e w' => ∃ v', e = .returned v' ∧ Own w' B v' (l ++ [92, 117, 48, 48, 51, 99]) ∧ Below B w w' := by
  have HO : Hid (Own w B v l) := hown
  have hb : bits BinOp.and IntKind.u8 60 15 = 12 := by decide
  clear hown
  go_enter Yba.func11, Yba.ntmps11
  go_wp2_with fail
  go_region_law (refine step_own rfl (.tmp 38) (.tmp 45) rfl B v l rfl (HO.out.alloc _) ⟨w.heap.size, 0, none⟩ 6 6 [92, 117, 48, 48, 51, 99] rfl rfl (fun j hj => new6 w.drew _ _ _ _ _ _ j hj) hsz (by simp; omega) ?_; intro v' w' h1 h2; have hbb : Below B w w' := ((Below.refl B w).drew.alloc hB _).trans h2; clear h2)
  all_goals
    go_wp2_with fail
    go_ret
    exact ⟨_, rfl, h1, hbb⟩
set_option maxHeartbeats 800000 in
theorem esc62 (w : World) (B : Nat) (v : Value) (l : List Int) (hown : Own w B v l) (hsz : l.length + 6 ≤ 1000000) (hB : B ≤ w.heap.size) :
    Calls Yba.prog 11 #[v, .int .u8 62] w fun e w' => ∃ v', e = .returned v' ∧ Own w' B v' (l ++ [92, 117, 48, 48, 51, 101]) ∧ Below B w w' := by
  have HO : Hid (Own w B v l) := hown
  have hb : bits BinOp.and IntKind.u8 62 15 = 14 := by decide
  clear hown
  go_enter Yba.func11, Yba.ntmps11
  go_wp2_with fail
  go_region_law (refine step_own rfl (.tmp 38) (.tmp 45) rfl B v l rfl (HO.out.alloc _) ⟨w.heap.size, 0, none⟩ 6 6 [92, 117, 48, 48, 51, 101] rfl rfl (fun j hj => new6 w.drew _ _ _ _ _ _ j hj) hsz (by simp; omega) ?_; intro v' w' h1 h2; have hbb : Below B w w' := ((Below.refl B w).drew.alloc hB _).trans h2; clear h2)
  all_goals
    go_wp2_with fail
    go_ret
    exact ⟨_, rfl, h1, hbb⟩
set_option maxHeartbeats 800000 in
theorem esc38 (w : World) (B : Nat) (v : Value) (l : List Int) (hown : Own w B v l) (hsz : l.length + 6 ≤ 1000000) (hB : B ≤ w.heap.size) :
    Calls Yba.prog 11 #[v, .int .u8 38] w fun e w' => ∃ v', e = .returned v' ∧ Own w' B v' (l ++ [92, 117, 48, 48, 50, 54]) ∧ Below B w w' := by
  have HO : Hid (Own w B v l) := hown
  have hb : bits BinOp.and IntKind.u8 38 15 = 6 := by decide
  clear hown
  go_enter Yba.func11, Yba.ntmps11
  go_wp2_with fail
  go_region_law (refine step_own rfl (.tmp 38) (.tmp 45) rfl B v l rfl (HO.out.alloc _) ⟨w.heap.size, 0, none⟩ 6 6 [92, 117, 48, 48, 50, 54] rfl rfl (fun j hj => new6 w.drew _ _ _ _ _ _ j hj) hsz (by simp; omega) ?_; intro v' w' h1 h2; have hbb : Below B w w' := ((Below.refl B w).drew.alloc hB _).trans h2; clear h2)
  all_goals
    go_wp2_with fail
    go_ret
    exact ⟨_, rfl, h1, hbb⟩
end Go.Proofs.Ybulkagca
