/- ONTO A ROW THAT MAY BEAR A MARK: THE CONTRACT OF appendEscaped (function 11) at the three bytes that Raw hands it. -/
import Derived.Test.YbulkagcaOwnG
import Derived.RegionTactic
import Derived.BigRegion
import Derived.Deep.RegionLaw
namespace Go.Proofs.Ybulkagca.G
open Go.RowKit

theorem new6 (w : World) (c0 c1 c2 c3 c4 c5 : Int) (j : Nat) (hj : j < 6) : (w.alloc (.cells #[.int .u8 c0, .int .u8 c1, .int .u8 c2, .int .u8 c3, .int .u8 c4, .int .u8 c5] 5)).cell? ((⟨w.heap.size, 0, none⟩ : Addr).add j) = some (.int .u8 ([c0, c1, c2, c3, c4, c5].getD j 0)) := by
  rw [Addr.add_lit, Nat.zero_add, World.cell?_alloc_at _ _ _ _ rfl]
  match j, hj with
  | 0, _ => rfl
  | 1, _ => rfl
  | 2, _ => rfl
  | 3, _ => rfl
  | 4, _ => rfl
  | 5, _ => rfl

set_option maxHeartbeats 800000 in
theorem esc60 (w : World) (B : Nat) (v : Value) (l : List Int) (hown : Own w B v l) (hsz : l.length + 6 ≤ 1000000) (hB : B ≤ w.heap.size) :
    Calls Yba.prog 11 #[v, .int .u8 60] w fun e w' => ∃ v', e = .returned v' ∧ Own w' B v' (l ++ [92, 117, 48, 48, 51, 99]) ∧ Below B w w' := by
  have HO : Hid (Own w B v l) := hown
  have hb : bits BinOp.and IntKind.u8 60 15 = 12 := by decide
  clear hown
  go_enter Yba.func11, Yba.ntmps11
  go_wp2_with fail
  go_region_law (refine step_own rfl (.tmp 38) (.tmp 45) rfl B v l rfl (HO.out.alloc _) ⟨w.heap.size, 0, none⟩ 6 6 [92, 117, 48, 48, 51, 99] rfl rfl (fun j hj => new6 w.drew _ _ _ _ _ _ j hj) hsz (by simp; omega) ?_; intro v' w' h1 h2; have hbb : Below B w w' := ((Below.refl B w).drew.alloc hB _).trans h2; clear h2)
  all_goals
    go_wp2_with fail
    go_ret
    exact ⟨_, rfl, h1, hbb⟩
set_option maxHeartbeats 800000 in
theorem esc62 (w : World) (B : Nat) (v : Value) (l : List Int) (hown : Own w B v l) (hsz : l.length + 6 ≤ 1000000) (hB : B ≤ w.heap.size) :
    Calls Yba.prog 11 #[v, .int .u8 62] w fun e w' => ∃ v', e = .returned v' ∧ Own w' B v' (l ++ [92, 117, 48, 48, 51, 101]) ∧ Below B w w' := by
  have HO : Hid (Own w B v l) := hown
  have hb : bits BinOp.and IntKind.u8 62 15 = 14 := by decide
  clear hown
  go_enter Yba.func11, Yba.ntmps11
  go_wp2_with fail
  go_region_law (refine step_own rfl (.tmp 38) (.tmp 45) rfl B v l rfl (HO.out.alloc _) ⟨w.heap.size, 0, none⟩ 6 6 [92, 117, 48, 48, 51, 101] rfl rfl (fun j hj => new6 w.drew _ _ _ _ _ _ j hj) hsz (by simp; omega) ?_; intro v' w' h1 h2; have hbb : Below B w w' := ((Below.refl B w).drew.alloc hB _).trans h2; clear h2)
  all_goals
    go_wp2_with fail
    go_ret
    exact ⟨_, rfl, h1, hbb⟩
set_option maxHeartbeats 800000 in
theorem esc38 (w : World) (B : Nat) (v : Value) (l : List Int) (hown : Own w B v l) (hsz : l.length + 6 ≤ 1000000) (hB : B ≤ w.heap.size) :
    Calls Yba.prog 11 #[v, .int .u8 38] w fun e w' => ∃ v', e = .returned v' ∧ Own w' B v' (l ++ [92, 117, 48, 48, 50, 54]) ∧ Below B w w' := by
  have HO : Hid (Own w B v l) := hown
  have hb : bits BinOp.and IntKind.u8 38 15 = 6 := by decide
  clear hown
  go_enter Yba.func11, Yba.ntmps11
  go_wp2_with fail
  go_region_law (refine step_own rfl (.tmp 38) (.tmp 45) rfl B v l rfl (HO.out.alloc _) ⟨w.heap.size, 0, none⟩ 6 6 [92, 117, 48, 48, 50, 54] rfl rfl (fun j hj => new6 w.drew _ _ _ _ _ _ j hj) hsz (by simp; omega) ?_; intro v' w' h1 h2; have hbb : Below B w w' := ((Below.refl B w).drew.alloc hB _).trans h2; clear h2)
  all_goals
    go_wp2_with fail
    go_ret
    exact ⟨_, rfl, h1, hbb⟩
end Go.Proofs.Ybulkagca.G
