/- THE CONTRACTS OF WHAT ONLY READS: held (17), of (27), listOf (26, 21), backExcept at nil (19), back (14). -/
import Derived.Test.YbulkagbmRows
import Derived.Test.YbulkagbmHalve
import Derived.WalkKit
import Derived.Deep.QuietTactic
import Derived.BigQuiet
import Derived.WalkLawsBesides
import Derived.Below
namespace Go.Proofs.Ybulkagbm
open Go.RowKit
namespace Trim

theorem held (ob : Nat) (a b c : Int) (w : World) (h3 : w.cell? ⟨ob, 3, none⟩ = some (.int .i64 a)) (h6 : w.cell? ⟨ob, 6, none⟩ = some (.int .i64 b)) (h9 : w.cell? ⟨ob, 9, none⟩ = some (.int .i64 c))
    (b0 : 0 ≤ a ∧ a ≤ 255) (b1 : 0 ≤ b ∧ b ≤ 255) (b2 : 0 ≤ c ∧ c ≤ 255) :
    Calls Yba.prog 17 #[.pointer (some ⟨ob, 0, none⟩)] w fun e w' => e = .returned (.int .i64 (a + b + c)) ∧ ∃ n, w' = w.drewN n := by
  obtain ⟨b01, b02⟩ := b0
  obtain ⟨b11, b12⟩ := b1
  obtain ⟨b21, b22⟩ := b2
  go_enter Yba.func17, Yba.ntmps17
  go_wp2
  go_quiet (fail)
  go_wp2
  go_ret
  exact ⟨rfl, _, rfl⟩

theorem of (nb na eb N cap nd : Nat) (w : World) (h0 : w.cell? ⟨nb, 0, none⟩ = some (.slice (some ⟨na, 0, none⟩) N cap)) (h4 : w.cell? ⟨eb, 4, none⟩ = some (.int .i32 nd)) (hnd : nd < N) :
    Calls Yba.prog 27 #[.pointer (some ⟨nb, 0, none⟩), .pointer (some ⟨eb, 0, none⟩)] w fun e w' => e = .returned (.pointer (some ⟨na, nd * 5, none⟩)) ∧ ∃ n, w' = w.drewN n := by
  go_enter Yba.func27, Yba.ntmps27
  go_wp2
  go_quiet (fail)
  go_wp2
  go_ret
  exact ⟨rfl, _, rfl⟩

theorem listOfN (nb na lb eb N cap nd li : Nat) (p : Addr) (w : World) (h0 : w.cell? ⟨nb, 0, none⟩ = some (.slice (some ⟨na, 0, none⟩) N cap)) (h1 : w.cell? ⟨nb, 1, none⟩ = some (.slice (some ⟨lb, 0, none⟩) 5 5))
    (h4 : w.cell? ⟨eb, 4, none⟩ = some (.int .i32 nd)) (hnd : nd < N) (hl : w.cell? ⟨na, nd * 5 + 3, none⟩ = some (.int .i32 li)) (hli : li < 5) (hp : w.cell? ⟨lb, li, none⟩ = some (.pointer (some p))) :
    Calls Yba.prog 26 #[.pointer (some ⟨nb, 0, none⟩), .pointer (some ⟨eb, 0, none⟩)] w fun e w' => e = .returned (.pointer (some p)) ∧ ∃ n, w' = w.drewN n := by
  go_enter Yba.func26, Yba.ntmps26
  go_wp2
  go_quiet (fail)
  go_wp2
  go_ret
  exact ⟨rfl, _, rfl⟩

theorem listOfO (ob nb na lb eb N cap nd li : Nat) (p : Addr) (w : World) (ho : w.cell? ⟨ob, 0, none⟩ = some (.pointer (some ⟨nb, 0, none⟩))) (h0 : w.cell? ⟨nb, 0, none⟩ = some (.slice (some ⟨na, 0, none⟩) N cap)) (h1 : w.cell? ⟨nb, 1, none⟩ = some (.slice (some ⟨lb, 0, none⟩) 5 5))
    (h4 : w.cell? ⟨eb, 4, none⟩ = some (.int .i32 nd)) (hnd : nd < N) (hl : w.cell? ⟨na, nd * 5 + 3, none⟩ = some (.int .i32 li)) (hli : li < 5) (hp : w.cell? ⟨lb, li, none⟩ = some (.pointer (some p))) :
    Calls Yba.prog 21 #[.pointer (some ⟨ob, 0, none⟩), .pointer (some ⟨eb, 0, none⟩)] w fun e w' => e = .returned (.pointer (some p)) ∧ ∃ n, w' = w.drewN n := by
  go_enter Yba.func21, Yba.ntmps21
  go_wp2_with fail
  refine (listOfN nb na lb eb N cap nd li p w h0 h1 h4 hnd hl hli hp).mono ?_
  rintro e w1 ⟨rfl, n, rfl⟩
  go_wp2_with fail
  go_ret
  exact ⟨rfl, _, rfl⟩

theorem backE_some (ob off nb na N cap root pv : Nat) (p : Addr) (w : World) (ho : w.cell? ⟨ob, off, none⟩ = some (.pointer (some ⟨nb, 0, none⟩))) (hr : w.cell? ⟨ob, off + 1, none⟩ = some (.int .i32 root))
    (h0 : w.cell? ⟨nb, 0, none⟩ = some (.slice (some ⟨na, 0, none⟩) N cap)) (hrN : root < N) (hpN : pv < N) (hne : pv ≠ root) (hpv : w.cell? ⟨na, root * 5 + 1, none⟩ = some (.int .i32 pv)) (he : w.cell? ⟨na, pv * 5, none⟩ = some (.pointer (some p))) :
    Calls Yba.prog 19 #[.pointer (some ⟨ob, off, none⟩), .pointer none] w fun e w' => e = .returned (.pointer (some p)) ∧ ∃ n, w' = w.drewN n := by
  have hne' : ((pv : Int) == (root : Int)) = false := by simp; omega
  go_enter Yba.func19, Yba.ntmps19
  go_wp2
  go_quiet (fail)
  go_wp2
  go_ret
  exact ⟨rfl, _, rfl⟩

theorem backE_none (ob off nb na N cap root : Nat) (w : World) (ho : w.cell? ⟨ob, off, none⟩ = some (.pointer (some ⟨nb, 0, none⟩))) (hr : w.cell? ⟨ob, off + 1, none⟩ = some (.int .i32 root))
    (h0 : w.cell? ⟨nb, 0, none⟩ = some (.slice (some ⟨na, 0, none⟩) N cap)) (hrN : root < N) (hpv : w.cell? ⟨na, root * 5 + 1, none⟩ = some (.int .i32 root)) :
    Calls Yba.prog 19 #[.pointer (some ⟨ob, off, none⟩), .pointer none] w fun e w' => e = .returned (.pointer none) ∧ ∃ n, w' = w.drewN n := by
  go_enter Yba.func19, Yba.ntmps19
  go_wp2
  go_quiet (fail)
  go_wp2
  go_ret
  exact ⟨rfl, _, rfl⟩

theorem back_some (ob off nb na N cap root pv : Nat) (p : Addr) (w : World) (ho : w.cell? ⟨ob, off, none⟩ = some (.pointer (some ⟨nb, 0, none⟩))) (hr : w.cell? ⟨ob, off + 1, none⟩ = some (.int .i32 root))
    (h0 : w.cell? ⟨nb, 0, none⟩ = some (.slice (some ⟨na, 0, none⟩) N cap)) (hrN : root < N) (hpN : pv < N) (hne : pv ≠ root) (hpv : w.cell? ⟨na, root * 5 + 1, none⟩ = some (.int .i32 pv)) (he : w.cell? ⟨na, pv * 5, none⟩ = some (.pointer (some p))) :
    Calls Yba.prog 14 #[.pointer (some ⟨ob, off, none⟩)] w fun e w' => e = .returned (.pointer (some p)) ∧ ∃ n, w' = w.drewN n := by
  go_enter Yba.func14, Yba.ntmps14
  go_wp2_with fail
  refine (backE_some ob off nb na N cap root pv p w ho hr h0 hrN hpN hne hpv he).mono ?_
  rintro e w1 ⟨rfl, n, rfl⟩
  go_wp2_with fail
  go_ret
  exact ⟨rfl, _, rfl⟩

theorem back_none (ob off nb na N cap root : Nat) (w : World) (ho : w.cell? ⟨ob, off, none⟩ = some (.pointer (some ⟨nb, 0, none⟩))) (hr : w.cell? ⟨ob, off + 1, none⟩ = some (.int .i32 root))
    (h0 : w.cell? ⟨nb, 0, none⟩ = some (.slice (some ⟨na, 0, none⟩) N cap)) (hrN : root < N) (hpv : w.cell? ⟨na, root * 5 + 1, none⟩ = some (.int .i32 root)) :
    Calls Yba.prog 14 #[.pointer (some ⟨ob, off, none⟩)] w fun e w' => e = .returned (.pointer none) ∧ ∃ n, w' = w.drewN n := by
  go_enter Yba.func14, Yba.ntmps14
  go_wp2_with fail
  refine (backE_none ob off nb na N cap root w ho hr h0 hrN hpv).mono ?_
  rintro e w1 ⟨rfl, n, rfl⟩
  go_wp2_with fail
  go_ret
  exact ⟨rfl, _, rfl⟩
end Trim
end Go.Proofs.Ybulkagbm
