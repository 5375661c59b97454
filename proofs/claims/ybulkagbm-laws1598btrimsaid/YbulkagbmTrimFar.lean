/- 'LawS1598BTrim' WHERE ONE OF THE SLICES IS TOO LONG: it answers true at once. -/
import Derived.Test.YbulkagbmTrimReads
namespace Go.Proofs.Ybulkagbm
open Go.RowKit
namespace Trim
set_option maxRecDepth 100000 in
theorem far3 (a0 a1 a2 : Int) (a3 : Option Addr) (len3 cap3 : Nat) (a4 : Option Addr) (len4 cap4 : Nat) (a5 : Int) (w : World) (h : 1024 < len3) :
    Calls Yba.prog 5 #[.int .u8 a0, .int .u8 a1, .int .u8 a2, .slice a3 len3 cap3, .slice a4 len4 cap4, .int .i64 a5] w fun e w' => e = .returned (.bool true) ∧ Below w.heap.size w w' := by
  go_enter Yba.func5, Yba.ntmps5
  go_wp2
  go_ret
  exact ⟨rfl, Below.refl _ _⟩
set_option maxRecDepth 100000 in
theorem far4 (a0 a1 a2 : Int) (a3 : Option Addr) (len3 cap3 : Nat) (a4 : Option Addr) (len4 cap4 : Nat) (a5 : Int) (w : World) (h3 : ¬ 1024 < len3) (h : 1024 < len4) :
    Calls Yba.prog 5 #[.int .u8 a0, .int .u8 a1, .int .u8 a2, .slice a3 len3 cap3, .slice a4 len4 cap4, .int .i64 a5] w fun e w' => e = .returned (.bool true) ∧ Below w.heap.size w w' := by
  go_enter Yba.func5, Yba.ntmps5
  go_wp2
  go_ret
  exact ⟨rfl, Below.refl _ _⟩
end Trim
end Go.Proofs.Ybulkagbm
