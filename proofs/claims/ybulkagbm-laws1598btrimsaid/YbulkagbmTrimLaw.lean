/- THE WALK OF 'LawS1598BTrim': set up, the two building loops, trimGhosts by its contract, the law's own loop, the checks. -/
import Derived.Test.YbulkagbmTrimFinal
import Derived.Deep.QuietTactic
import Derived.BigQuiet
import Derived.Deep.CutRange
import Derived.Deep.LoopGhost
import Derived.RegionTactic
import Derived.BigRegion
import Derived.WalkLawsBesides
import Derived.Carry
namespace Go.Proofs.Ybulkagbm
open Go.RowKit
namespace Trim
theorem as47 (v : Value) (w : World) : (Instr.typeAssert (.iface 47 v) 20 47 true).run Yba.prog w = .ok (.tuple #[v, .bool true]) w := by kernel_rfl
theorem mk43 (w : World) : (Instr.makeSlice 43 (.int .i64 5) (.int .i64 5)).run Yba.prog w = .ok (.slice (some ⟨w.heap.size, 0, none⟩) 5 5) (w.alloc (.cells #[.pointer none, .int .i32 0, .int .i32 0, .int .i32 0, .int .u32 0, .pointer none, .int .i32 0, .int .i32 0, .int .i32 0, .int .u32 0, .pointer none, .int .i32 0, .int .i32 0, .int .i32 0, .int .u32 0, .pointer none, .int .i32 0, .int .i32 0, .int .i32 0, .int .u32 0, .pointer none, .int .i32 0, .int .i32 0, .int .i32 0, .int .u32 0] 49)) := by kernel_rfl
theorem info39 : (Yba.prog.info? 39).map (fun i => (i.zero, i.size, i.bytes)) = some (some (.pointer none), 1, 8) := by kernel_rfl
theorem info2 : (Yba.prog.info? 2).map (fun i => (i.zero, i.size, i.bytes)) = some (some (.int .i64 0), 1, 8) := by kernel_rfl

set_option maxHeartbeats 16000000 in
set_option maxRecDepth 100000 in
theorem near (c : Cfg) (a3 : Option Addr) (cap3 : Nat) (a4 : Option Addr) (cap4 : Nat) (a5 : Int) (w : World) (HB : Hid (c.B = w.heap.size))
    (h3 : ¬ 1024 < c.l3) (h4 : ¬ 1024 < c.l4) (b00 : 0 ≤ c.x1) (b01 : c.x1 ≤ 255) (b10 : 0 ≤ c.x2) (b11 : c.x2 ≤ 255) (b20 : 0 ≤ c.x3) (b21 : c.x3 ≤ 255)
    (H3 : Hid (∀ i, i < c.l3 → ∃ b o, a3 = some ⟨b, o, none⟩ ∧ b < w.heap.size ∧ w.cell? ⟨b, o + i, none⟩ = some (.int .u8 ((c.pW i : Nat) : Int))))
    (H4 : Hid (∀ i, i < c.l4 → ∃ b o, a4 = some ⟨b, o, none⟩ ∧ b < w.heap.size ∧ w.cell? ⟨b, o + i, none⟩ = some (.int .u8 ((c.pM i : Nat) : Int))))
    (HP3 : Hid (∀ i, c.pW i < 256)) (HP4 : Hid (∀ i, c.pM i < 256)) :
    Calls Yba.prog 5 #[.int .u8 c.x1, .int .u8 c.x2, .int .u8 c.x3, .slice a3 c.l3 cap3, .slice a4 c.l4 cap4, .int .i64 a5] w fun e w' => e = .returned (.bool true) ∧ Below w.heap.size w w' := by
  have ha := as47
  have hm := mk43
  have hmm := @run_makeMap Yba.prog
  have hmk1 := run_make_row' (P := Yba.prog) 51 39 (.pointer none) 8 Yba.underlying51 info39 rfl .i64 .i64 c.l3 (by omega) (by omega)
  have hmk2 := run_make_row' (P := Yba.prog) 52 2 (.int .i64 0) 8 Yba.underlying52 info2 rfl .i64 .i64 c.l3 (by omega) (by omega)
  go_enter Yba.func5, Yba.ntmps5
  go_wp2
  refine wp_loop_rounds 6 ?_
  rw [rounds_succ]
  go_wp2
  rw [rounds_succ]
  go_wp2
  rw [rounds_succ]
  go_wp2
  rw [rounds_succ]
  go_wp2
  rw [rounds_succ]
  go_wp2
  rw [rounds_succ]
  go_wp2
  go_region
  go_wp2
  refine wp_loop_rounds 6 ?_
  rw [rounds_succ]
  go_wp2
  rw [rounds_succ]
  go_wp2
  rw [rounds_succ]
  go_wp2
  rw [rounds_succ]
  go_wp2
  rw [rounds_succ]
  go_wp2
  rw [rounds_succ]
  go_wp2
  clear ha hm hmm hmk1 hmk2
  go_loopw [21, 158] (fun tot ctr wr => ∃ (i : Nat) (eW : Nat → Nat) (na : Nat), i ≤ c.l3 ∧ ctr = .int .i64 i ∧ tot = .int .i64 (sumTo (lenW c) i) ∧
      Hid (Built c w wr i 0 eW (fun _ => 0) na ∧ wr.rowIs (w.heap.size + 5) 39 c.l3 (entRow eW i) ∧ wr.rowIs (w.heap.size + 6) 2 c.l3 (lenRow (lenW c) i))) (fun _ ctr _ => c.l3 - (intOf ctr).toNat)
  case atStart =>
    refine ⟨0, fun _ => 0, w.heap.size + 2, Nat.zero_le _, rfl, rfl, ?_⟩
    have hs := start c w HB.out (by omega) (by omega) (fun _ => 0) (fun _ => 0) (oC (LL c (fun _ => 0) (fun _ => 0)) (kn 0 0) 0 0) _ _ _ rfl rfl rfl rfl _ rfl
    rw [HB.out] at hs
    have e1 : oC (LL c (fun _ => 0) (fun _ => 0)) (kn 0 0) 0 0 = #[.pointer (some ⟨w.heap.size + 1, 0, none⟩), .pointer (some ⟨w.heap.size + 1, 0, none⟩), .int .i32 0, .int .i64 c.x1, .pointer (some ⟨w.heap.size + 1, 0, none⟩), .int .i32 1, .int .i64 c.x2, .pointer (some ⟨w.heap.size + 1, 0, none⟩), .int .i32 2, .int .i64 c.x3,
      .pointer (some ⟨w.heap.size + 1, 0, none⟩), .int .i32 3, .int .i64 0, .pointer (some ⟨w.heap.size + 1, 0, none⟩), .int .i32 4, .int .i64 0, .map (some (w.heap.size + 4)), .int .i64 0, .int .i64 0,
      .int .u64 0, .slice none 0 0, .int .i64 0, .int .i64 0, .int .i64 0, .int .i64 0, .int .i64 0, .pointer none, .bool false, .int .i64 0, .int .i64 0, .int .i64 0, .int .u32 0, .int .u32 0, .int .u32 0, .int .u32 0] := by
      rw [← HB.out]; rfl
    have e2 : lC (LL c (fun _ => 0) (fun _ => 0)) = #[.pointer (some ⟨w.heap.size, 1, none⟩), .pointer (some ⟨w.heap.size, 4, none⟩), .pointer (some ⟨w.heap.size, 7, none⟩), .pointer (some ⟨w.heap.size, 10, none⟩), .pointer (some ⟨w.heap.size, 13, none⟩)] := by rw [← HB.out]; rfl
    rw [e1, e2] at hs
    exact ⟨hs.1.drewN 1, hs.2.1, hs.2.2⟩
  case round =>
    obtain ⟨i, eW, na, hi, rfl, rfl, HBd⟩ := hrel
    by_cases hlt : i < c.l3
    · as_aux_lemma =>
        obtain ⟨b, o, rfl, hbs, hcell0⟩ := H3.out i hlt
        have hcell : wr.cell? ⟨b, o + i, none⟩ = some (.int .u8 ((c.pW i : Nat) : Int)) := (HBd.out.1.be.cell (p := ⟨b, o + i, none⟩) (by rw [HB.out]; exact hbs)).trans hcell0
        have hst := sumTo_le (lenW c) 13 i (fun x _ => lenW_le c x)
        have hle := lenW_le c i
        have HK : Hid (Calls Yba.prog 11 #[.int .u8 119, .int .i64 i, .int .u8 (c.pW i)] wr fun e w' => e = .returned (.string (keyB 119 i (c.pW i))) ∧ Below wr.heap.size wr w') := key 119 i (c.pW i) wr (by omega) (HP3.out i)
        have HR : Hid (∀ w1, Below wr.heap.size wr w1 → Calls Yba.prog 12 #[.pointer (some ⟨w.heap.size + 1, 0, none⟩), .pointer (some ⟨w.heap.size, 10, none⟩), .pointer (some ⟨w1.heap.size, 0, none⟩)] (w1.alloc (.cells #[.string (keyB 119 i (c.pW i)), .slice none 0 0, .int .i64 0, .int .i32 0, .int .i32 0] 55)) fun e w3 => e = .returned (.tuple #[]) ∧
            ∃ na' w4, (∀ q, (Instr.mapUpdate 38 (.map (some (w.heap.size + 4))) (.string (keyB 119 i (c.pW i))) (.pointer (some ⟨w1.heap.size, 0, none⟩))).run Yba.prog (w3.drewN q) = .ok () (w4.drewN q)) ∧
            Built c w w4 (i + 1) 0 (fun x => if x = i then w1.heap.size else eW x) (fun _ => 0) na' ∧ BesideG (fun x => x = w.heap.size ∨ x = w.heap.size + 1 ∨ x = na ∨ x = w.heap.size + 4) wr w4 ∧
            w3.cell? ⟨w.heap.size, 16, none⟩ = some (.map (some (w.heap.size + 4))) ∧ w3.cell? ⟨w1.heap.size, 0, none⟩ = some (.string (keyB 119 i (c.pW i))) ∧ w4.cell? ⟨w1.heap.size, 0, none⟩ = some (.string (keyB 119 i (c.pW i)))) := by
          intro w1 hb1
          have := roundW c w wr w1 i eW (fun _ => 0) na HBd.out.1 hlt hb1
          rw [HB.out] at this
          exact this
        clear hcell0
        go_wp2_with fail
        refine HK.out.mono ?_
        rintro e w1 ⟨rfl, hb1⟩
        go_wp2_with fail
        refine (HR.out w1 hb1).mono ?_
        rintro e w3 ⟨rfl, na', w4, hrun, hB4, hG4, k1, k2, k3⟩
        have hrun1 : (Instr.mapUpdate 38 (.map (some (w.heap.size + 4))) (.string (keyB 119 i (c.pW i))) (.pointer (some ⟨w1.heap.size, 0, none⟩))).run Yba.prog w3.drew = .ok () w4.drew := hrun 1
        have HR5 : Hid (w4.rowIs (w.heap.size + 5) 39 c.l3 (entRow eW i)) := row_kept HBd.out.1 HBd.out.2.1 (Or.inl rfl) (by rw [HB.out]; exact hG4)
        have HR6 : Hid (w4.rowIs (w.heap.size + 6) 2 c.l3 (lenRow (lenW c) i)) := row_kept HBd.out.1 HBd.out.2.2 (Or.inr rfl) (by rw [HB.out]; exact hG4)
        have k5 : w4.cell? ⟨w.heap.size + 5, i, none⟩ = some (.pointer none) := by have := HR5.out.cell hlt; simpa [entRow] using this
        have k6 : w4.cell? ⟨w.heap.size + 6, i, none⟩ = some (.int .i64 0) := by have := HR6.out.cell hlt; simpa [lenRow] using this
        have f5 : w4.frozen? ⟨w.heap.size + 5, i, none⟩ = false := HR5.out.frozen i
        have f6 : w4.frozen? ⟨w.heap.size + 6, i, none⟩ = false := HR6.out.frozen i
        have HB4 : Hid (Built c w w4 (i + 1) 0 (fun x => if x = i then w1.heap.size else eW x) (fun _ => 0) na') := hB4
        obtain ⟨ls, hls⟩ : ∃ ls, ls = lenW c i := ⟨_, rfl⟩
        have hsz : (keyB 119 i (c.pW i)).size = ls := hls.symm
        rw [← hls] at hle
        have HLS : Hid (ls = lenW c i) := hls
        clear hrun hb1 hB4 hG4 HBd HK HR hcell hls
        go_wp2_with fail
        go_region
        go_wp2_with fail
        go_roundw
        case rel =>
          have hE := endStore (eb := w1.heap.size) HB4.out HR5.out HR6.out (by rw [HB.out]; omega) (by rw [HB.out]; omega) HLS.out 1
          refine ⟨i + 1, fun x => if x = i then w1.heap.size else eW x, na', by omega, by go_num, ?_, hE.1, hE.2.1, hE.2.2.1⟩
          rw [sumTo, ← HLS.out]; go_num
        case measure => simp [intOf]; omega
    · have hi3 : i = c.l3 := by omega
      subst hi3
      have hmk3 := run_make_row' (P := Yba.prog) 51 39 (.pointer none) 8 Yba.underlying51 info39 rfl .i64 .i64 c.l4 (by omega) (by omega)
      have hmk4 := run_make_row' (P := Yba.prog) 52 2 (.int .i64 0) 8 Yba.underlying52 info2 rfl .i64 .i64 c.l4 (by omega) (by omega)
      go_wp2_with fail
      clear hmk3 hmk4
      obtain ⟨wa, hwa⟩ : ∃ wa, wa = wr := ⟨_, rfl⟩
      subst hwa
      have r5lt : w.heap.size + 5 < wa.heap.size := HBd.out.2.1.lt
      have r6lt : w.heap.size + 6 < wa.heap.size := HBd.out.2.2.lt
      have HBa : Hid (Built c w wa c.l3 0 eW (fun _ => 0) na ∧ wa.rowIs (w.heap.size + 5) 39 c.l3 (entRow eW c.l3) ∧ wa.rowIs (w.heap.size + 6) 2 c.l3 (lenRow (lenW c) c.l3)) := HBd
      clear HBd
      go_loopw [21, 210] (fun tot ctr wx => ∃ (j : Nat) (eM : Nat → Nat) (nb : Nat), j ≤ c.l4 ∧ ctr = .int .i64 j ∧ tot = .int .i64 ((sumTo (lenW c) c.l3 + sumTo (lenM c) j : Nat) : Int) ∧
          Hid (Built c w wx c.l3 j eW eM nb ∧ wx.rowIs (w.heap.size + 5) 39 c.l3 (entRow eW c.l3) ∧ wx.rowIs (w.heap.size + 6) 2 c.l3 (lenRow (lenW c) c.l3) ∧ wx.rowIs wa.heap.size 39 c.l4 (entRow eM j) ∧ wx.rowIs (wa.heap.size + 1) 2 c.l4 (lenRow (lenM c) j))) (fun _ ctr _ => c.l4 - (intOf ctr).toNat)
      case atStart =>
        refine ⟨0, fun _ => 0, na, Nat.zero_le _, rfl, rfl, (HBa.out.1.alloc _).alloc _, (HBa.out.2.1.alloc _).alloc _, (HBa.out.2.2.alloc _).alloc _, ?_, ?_⟩
        · exact ((World.rowIs_made wa (.pointer none) c.l4 39).alloc _).congr (fun x _ => by simp [entRow])
        · have := World.rowIs_made (wa.alloc (.cells (madeCells #[.pointer none] c.l4) 39)) (.int .i64 0) c.l4 2
          rw [World.size_alloc] at this
          exact this.congr (fun x _ => by simp [lenRow])
      case round =>
        obtain ⟨j, eM, nb, hj, rfl, rfl, HBd⟩ := hrel
        by_cases hjt : j < c.l4
        · as_aux_lemma =>
            obtain ⟨b, o, rfl, hbs, hcell0⟩ := H4.out j hjt
            have hcell : wr.cell? ⟨b, o + j, none⟩ = some (.int .u8 ((c.pM j : Nat) : Int)) := (HBd.out.1.be.cell (p := ⟨b, o + j, none⟩) (by rw [HB.out]; exact hbs)).trans hcell0
            have hst := sumTo_le (lenM c) 13 j (fun x _ => lenM_le c x)
            have hst3 := sumTo_le (lenW c) 13 c.l3 (fun x _ => lenW_le c x)
            have hle := lenM_le c j
            have hBa := HBa.out.1.sz
            rw [HB.out] at hBa
            have HK : Hid (Calls Yba.prog 11 #[.int .u8 109, .int .i64 j, .int .u8 (c.pM j)] wr fun e w' => e = .returned (.string (keyB 109 j (c.pM j))) ∧ Below wr.heap.size wr w') := key 109 j (c.pM j) wr (by omega) (HP4.out j)
            have HR : Hid (∀ w1, Below wr.heap.size wr w1 → Calls Yba.prog 12 #[.pointer (some ⟨w.heap.size + 1, 0, none⟩), .pointer (some ⟨w.heap.size, 13, none⟩), .pointer (some ⟨w1.heap.size, 0, none⟩)] (w1.alloc (.cells #[.string (keyB 109 j (c.pM j)), .slice none 0 0, .int .i64 0, .int .i32 0, .int .i32 0] 55)) fun e w3 => e = .returned (.tuple #[]) ∧
                ∃ na' w4, (∀ q, (Instr.mapUpdate 38 (.map (some (w.heap.size + 4))) (.string (keyB 109 j (c.pM j))) (.pointer (some ⟨w1.heap.size, 0, none⟩))).run Yba.prog (w3.drewN q) = .ok () (w4.drewN q)) ∧
                Built c w w4 c.l3 (j + 1) eW (fun x => if x = j then w1.heap.size else eM x) na' ∧ BesideG (fun x => x = w.heap.size ∨ x = w.heap.size + 1 ∨ x = nb ∨ x = w.heap.size + 4) wr w4 ∧
                w3.cell? ⟨w.heap.size, 16, none⟩ = some (.map (some (w.heap.size + 4))) ∧ w3.cell? ⟨w1.heap.size, 0, none⟩ = some (.string (keyB 109 j (c.pM j))) ∧ w4.cell? ⟨w1.heap.size, 0, none⟩ = some (.string (keyB 109 j (c.pM j)))) := by
              intro w1 hb1
              have := roundM c w wr w1 j eW eM nb HBd.out.1 hjt hb1
              rw [HB.out] at this
              exact this
            clear hcell0
            go_wp2_with fail
            refine HK.out.mono ?_
            rintro e w1 ⟨rfl, hb1⟩
            go_wp2_with fail
            refine (HR.out w1 hb1).mono ?_
            rintro e w3 ⟨rfl, na', w4, hrun, hB4, hG4, k1, k2, k3⟩
            have hrun1 : (Instr.mapUpdate 38 (.map (some (w.heap.size + 4))) (.string (keyB 109 j (c.pM j))) (.pointer (some ⟨w1.heap.size, 0, none⟩))).run Yba.prog w3.drew = .ok () w4.drew := hrun 1
            have HR3 : Hid (w4.rowIs (w.heap.size + 5) 39 c.l3 (entRow eW c.l3)) := row_kept HBd.out.1 HBd.out.2.1 (Or.inl rfl) (by rw [HB.out]; exact hG4)
            have HR4 : Hid (w4.rowIs (w.heap.size + 6) 2 c.l3 (lenRow (lenW c) c.l3)) := row_kept HBd.out.1 HBd.out.2.2.1 (Or.inr rfl) (by rw [HB.out]; exact hG4)
            have HR5 : Hid (w4.rowIs wa.heap.size 39 c.l4 (entRow eM j)) := row_kept HBd.out.1 HBd.out.2.2.2.1 (Or.inl rfl) (by rw [HB.out]; exact hG4)
            have HR6 : Hid (w4.rowIs (wa.heap.size + 1) 2 c.l4 (lenRow (lenM c) j)) := row_kept HBd.out.1 HBd.out.2.2.2.2 (Or.inr rfl) (by rw [HB.out]; exact hG4)
            have k5 : w4.cell? ⟨wa.heap.size, j, none⟩ = some (.pointer none) := by have := HR5.out.cell hjt; simpa [entRow] using this
            have k6 : w4.cell? ⟨wa.heap.size + 1, j, none⟩ = some (.int .i64 0) := by have := HR6.out.cell hjt; simpa [lenRow] using this
            have f5 : w4.frozen? ⟨wa.heap.size, j, none⟩ = false := HR5.out.frozen j
            have f6 : w4.frozen? ⟨wa.heap.size + 1, j, none⟩ = false := HR6.out.frozen j
            have HB4 : Hid (Built c w w4 c.l3 (j + 1) eW (fun x => if x = j then w1.heap.size else eM x) na') := hB4
            obtain ⟨ls, hls⟩ : ∃ ls, ls = lenM c j := ⟨_, rfl⟩
            have hsz : (keyB 109 j (c.pM j)).size = ls := hls.symm
            rw [← hls] at hle
            have HLS : Hid (ls = lenM c j) := hls
            clear hrun hb1 hB4 hG4 HBd HK HR hcell hls
            go_wp2_with fail
            go_region
            go_wp2_with fail
            go_roundw
            case rel =>
              have hE := endStore (eb := w1.heap.size) HB4.out HR5.out HR6.out (by rw [HB.out]; omega) (by rw [HB.out]; omega) HLS.out 1
              refine ⟨j + 1, fun x => if x = j then w1.heap.size else eM x, na', by omega, by go_num, ?_, hE.1, HR3.out.of_block (hE.2.2.2.block _ (by omega)), HR4.out.of_block (hE.2.2.2.block _ (by omega)), hE.2.1, hE.2.2.1⟩
              rw [sumTo, ← HLS.out]; go_num
            case measure => simp [intOf]; omega
        · have hj4 : j = c.l4 := by omega
          subst hj4
          have k17 : wr.cell? ⟨w.heap.size, 17, none⟩ = some (.int .i64 0) := by rw [← HB.out]; exact cell_block HBd.out.1.st.ho 17
          have k18 : wr.cell? ⟨w.heap.size, 18, none⟩ = some (.int .i64 0) := by rw [← HB.out]; exact cell_block HBd.out.1.st.ho 18
          have f17 : wr.frozen? ⟨w.heap.size, 17, none⟩ = false := by rw [← HB.out]; exact frozen_block HBd.out.1.st.ho 17
          have f18 : wr.frozen? ⟨w.heap.size, 18, none⟩ = false := by rw [← HB.out]; exact frozen_block HBd.out.1.st.ho 18
          have HT : Hid (∀ tot : Int, tot = ((sumTo (lenW c) c.l3 + sumTo (lenM c) c.l4 : Nat) : Int) → Calls Yba.prog 13 #[.pointer (some ⟨w.heap.size, 0, none⟩)] ((wr.setCell ⟨w.heap.size, 17, none⟩ (.int .i64 tot)).setCell ⟨w.heap.size, 18, none⟩ (.int .i64 a5)) fun e w' => e = .returned (.tuple #[]) ∧
              ∃ p q, (p, q) = ends (c.x1 + c.x2 + c.x3) a5 (lenW c) (lenM c) (c.l3, c.l4) ∧ Fin c w w' eW eM nb wa.heap.size p q a5) := by
            intro tot htot
            have h5 := HBd.out.2.1
            have h6 := HBd.out.2.2.1
            rw [← HB.out] at h5 h6
            have := trimLaw c w wr eW eM nb wa.heap.size tot a5 HBd.out.1 htot h5 h6 HBd.out.2.2.2.1 HBd.out.2.2.2.2 ⟨b00, b01⟩ ⟨b10, b11⟩ ⟨b20, b21⟩
            rw [HB.out] at this
            exact this
          clear HBd
          go_wp2_with fail
          refine (HT.out _ rfl).mono ?_
          rintro e w2 ⟨rfl, p, q, hpq, hF⟩
          have HF : Hid (Fin c w w2 eW eM nb wa.heap.size p q a5) := hF
          have HPQ : Hid ((p, q) = ends (c.x1 + c.x2 + c.x3) a5 (lenW c) (lenM c) (c.l3, c.l4)) := hpq
          clear hF hpq HT k17 k18 f17 f18 HBa
          go_wp2_with fail
          have hh0 : 0 ≤ c.x1 + c.x2 + c.x3 := by omega
          go_loopg [33, 34, 35] (c.l3 + c.l4) (fun g wn mn by_ wx => ∃ u v : Nat, g = u + v ∧ u ≤ c.l3 ∧ v ≤ c.l4 ∧ wn = .int .i64 u ∧ mn = .int .i64 v ∧ by_ = .int .i64 ((sumTo (lenW c) u : Int) + (sumTo (lenM c) v : Int)) ∧ w2 = wx ∧ Hid ((p, q) = ends (c.x1 + c.x2 + c.x3) a5 (lenW c) (lenM c) (u, v)))
          case atStart => exact ⟨c.l3, c.l4, rfl, Nat.le_refl _, Nat.le_refl _, rfl, rfl, rfl, rfl, HPQ⟩
          case round =>
            obtain ⟨u, v, rfl, hu, hv, rfl, rfl, rfl, rfl, HE⟩ := hrel
            have hsu := sumTo_le (lenW c) 13 u (fun x _ => lenW_le c x)
            have hsv := sumTo_le (lenM c) 13 v (fun x _ => lenM_le c x)
            by_cases hov : overB (c.x1 + c.x2 + c.x3) a5 (lenW c) (lenM c) (u, v) = true
            · have hpos := over_pos hh0 hov
              have HE2 := ends_over hh0 hov
              have hcase := over_case hov
              clear hov
              simp only at hpos
              by_cases huv : v < u
              · as_aux_lemma =>
                  have kw : w2.cell? ⟨w.heap.size + 6, u - 1, none⟩ = some (.int .i64 (lenW c (u - 1) : Nat)) := by
                    have := HF.out.r6.cell (show u - 1 < c.l3 by omega)
                    rw [HB.out] at this
                    simpa [lenRow, show u - 1 < c.l3 by omega] using this
                  have hle := lenW_le c (u - 1)
                  have HS : Hid (sumTo (lenW c) u = sumTo (lenW c) (u - 1) + lenW c (u - 1)) := sumTo_pred _ _ (by omega)
                  have HE3 : Hid ((p, q) = ends (c.x1 + c.x2 + c.x3) a5 (lenW c) (lenM c) (u - 1, v)) := by
                    rw [Hid, ← step_w huv, ← HE2]; exact HE.out
                  have h1v : 1 ≤ u := by omega
                  clear HE HE2
                  obtain ⟨lw, hlw⟩ : ∃ lw, lw = lenW c (u - 1) := ⟨_, rfl⟩
                  rw [← hlw] at kw hle HS
                  clear hlw
                  rcases hcase with hA1 | ⟨hA1, hA2, hA3⟩
                  all_goals
                    go_wp2_with fail
                    go_roundg (u - 1 + (v))
                    case measure => omega
                    case rel => exact ⟨u - 1, v, rfl, by omega, by omega, by go_num, by go_num, by have := HS.out; go_num, rfl, HE3⟩
              · as_aux_lemma =>
                  have kw : w2.cell? ⟨wa.heap.size + 1, v - 1, none⟩ = some (.int .i64 (lenM c (v - 1) : Nat)) := by
                    have := HF.out.r8.cell (show v - 1 < c.l4 by omega)
                    simpa [lenRow, show v - 1 < c.l4 by omega] using this
                  have hle := lenM_le c (v - 1)
                  have HS : Hid (sumTo (lenM c) v = sumTo (lenM c) (v - 1) + lenM c (v - 1)) := sumTo_pred _ _ (by omega)
                  have HE3 : Hid ((p, q) = ends (c.x1 + c.x2 + c.x3) a5 (lenW c) (lenM c) (u, v - 1)) := by
                    rw [Hid, ← step_m huv, ← HE2]; exact HE.out
                  have h1v : 1 ≤ v := by omega
                  clear HE HE2
                  obtain ⟨lw, hlw⟩ : ∃ lw, lw = lenM c (v - 1) := ⟨_, rfl⟩
                  rw [← hlw] at kw hle HS
                  clear hlw
                  rcases hcase with hA1 | ⟨hA1, hA2, hA3⟩
                  all_goals
                    go_wp2_with fail
                    go_roundg (u + (v - 1))
                    case measure => omega
                    case rel => exact ⟨u, v - 1, rfl, by omega, by omega, by go_num, by go_num, by have := HS.out; go_num, rfl, HE3⟩
            · have hcase := under_case hov
              have hov' : overB (c.x1 + c.x2 + c.x3) a5 (lenW c) (lenM c) (u, v) = false := by simpa using hov
              have hpq : (p, q) = (u, v) := by rw [HE.out, ends_done hov']
              have hpu : p = u := congrArg Prod.fst hpq
              have hqv : q = v := congrArg Prod.snd hpq
              subst hpu hqv
              clear hov hov' hpq HE HPQ
              go_upto_region 60 with fail
              go_cut [290] from 277 to 309 (fun s wx => s = .bool false ∧ w2 = wx)
              case first =>
                obtain ⟨hA1, hA2 | ⟨hA2, hA3⟩⟩ := hcase
                all_goals
                  go_wp2_with fail
                  go_meet
                  case rel => exact ⟨rfl, rfl⟩
              case rest =>
                obtain ⟨rfl, rfl⟩ := hcut
                obtain ⟨c3, c6, c9, c12, c15, c16, c17, c18⟩ := HF.out.cells
                have hlen := fun n ty => (HF.out.drewN n).len ty
                have hlen0 := fun ty => HF.out.len ty
                rw [HB.out] at c3 c6 c9 c12 c15 c16 c17 c18
                simp only [HB.out] at hlen hlen0
                have HTT : (tot2 (lenW c) (lenM c) (p, q) : Nat) = sumTo (lenW c) p + sumTo (lenM c) q := rfl
                rw [HTT, show ((sumTo (lenW c) p + sumTo (lenM c) q : Nat) : Int) = (sumTo (lenW c) p : Int) + (sumTo (lenM c) q : Int) by omega] at c17
                clear HTT hcase
                go_wp2_with fail
                clear c3 c6 c9 c12 c15 c16 c17 c18 hlen hlen0
                go_loopw [383] (fun ctr wx => ∃ i : Nat, i ≤ c.l3 ∧ ctr = .int .i64 i ∧ Hid (Fin c w wx eW eM nb wa.heap.size p q a5)) (fun ctr _ => c.l3 - (intOf ctr).toNat)
                case atStart => exact ⟨0, Nat.zero_le _, rfl, HF⟩
                case round =>
                  obtain ⟨i, hi, rfl, HG⟩ := hrel
                  have c16r : wr.cell? ⟨w.heap.size, 16, none⟩ = some (.map (some (w.heap.size + 4))) := by have := HG.out.cells.2.2.2.2.2.1; rwa [HB.out] at this
                  by_cases hlt : i < c.l3
                  · have cw : wr.cell? ⟨w.heap.size + 5, i, none⟩ = some (.pointer (some ⟨eW i, 0, none⟩)) := by
                      have := HG.out.r5.cell hlt
                      rw [HB.out] at this
                      simpa [entRow, hlt] using this
                    have ck : wr.cell? ⟨eW i, 0, none⟩ = some (.string (keyB 119 i (c.pW i))) := (HG.out.ent 3 i (Or.inl rfl) hlt).1
                    by_cases hip : i < p
                    · as_aux_lemma =>
                        have hlook : ∀ n, (Instr.lookup 38 (.map (some (w.heap.size + 4))) (.string (keyB 119 i (c.pW i))) true).run Yba.prog (wr.drewN n) = .ok (.tuple #[.pointer (some ⟨eW i, 0, none⟩), .bool true]) (wr.drewN n) := by
                          intro n
                          have := (HG.out.drewN n).look 3 i (Or.inl rfl) hip
                          rw [HB.out] at this
                          exact this
                        have hd : decide ((i : Int) < (p : Int)) = true := by simpa using hip
                        have hnp := neq_same
                        go_wp2_with fail
                        go_quiet (fail)
                        go_wp2_with fail
                        go_roundw
                        case rel => exact ⟨i + 1, by omega, by go_num, HG.out.drewN _⟩
                        case measure => simp [intOf]; omega
                    · as_aux_lemma =>
                        have hlook : ∀ n, (Instr.lookup 38 (.map (some (w.heap.size + 4))) (.string (keyB 119 i (c.pW i))) true).run Yba.prog (wr.drewN n) = .ok (.tuple #[.pointer none, .bool false]) (wr.drewN n) := by
                          intro n
                          have := (HG.out.drewN n).miss 3 i (Or.inl rfl) hip hlt
                          rw [HB.out] at this
                          exact this
                        have c4 : wr.cell? ⟨eW i, 4, none⟩ = some (.int .i32 0) := (HG.out.ent 3 i (Or.inl rfl) hlt).2 hip
                        have hd : decide ((i : Int) < (p : Int)) = false := by simpa using hip
                        go_wp2_with fail
                        go_quiet (fail)
                        go_wp2_with fail
                        go_roundw
                        case rel => exact ⟨i + 1, by omega, by go_num, HG.out.drewN _⟩
                        case measure => simp [intOf]; omega
                  · clear c16r
                    obtain ⟨wb, hwb⟩ : ∃ wb, wb = wr := ⟨_, rfl⟩
                    subst hwb
                    have HF6 : Hid (Fin c w wb eW eM nb wa.heap.size p q a5) := HG
                    clear HG
                    go_wp2_with fail
                    clear hlt
                    go_loopw [427] (fun ctr wx => ∃ i : Nat, i ≤ c.l4 ∧ ctr = .int .i64 i ∧ Hid (Fin c w wx eW eM nb wa.heap.size p q a5)) (fun ctr _ => c.l4 - (intOf ctr).toNat)
                    case atStart => exact ⟨0, Nat.zero_le _, rfl, HF6⟩
                    case round =>
                      obtain ⟨i, hi, rfl, HG⟩ := hrel
                      have c16r : wr.cell? ⟨w.heap.size, 16, none⟩ = some (.map (some (w.heap.size + 4))) := by have := HG.out.cells.2.2.2.2.2.1; rwa [HB.out] at this
                      by_cases hlt : i < c.l4
                      · have cw : wr.cell? ⟨wa.heap.size, i, none⟩ = some (.pointer (some ⟨eM i, 0, none⟩)) := by
                          have := HG.out.r7.cell hlt
                          simpa [entRow, hlt] using this
                        have ck : wr.cell? ⟨eM i, 0, none⟩ = some (.string (keyB 109 i (c.pM i))) := (HG.out.ent 4 i (Or.inr rfl) hlt).1
                        by_cases hip : i < q
                        · as_aux_lemma =>
                            have hlook : ∀ n, (Instr.lookup 38 (.map (some (w.heap.size + 4))) (.string (keyB 109 i (c.pM i))) true).run Yba.prog (wr.drewN n) = .ok (.tuple #[.pointer (some ⟨eM i, 0, none⟩), .bool true]) (wr.drewN n) := by
                              intro n
                              have := (HG.out.drewN n).look 4 i (Or.inr rfl) hip
                              rw [HB.out] at this
                              exact this
                            have hd : decide ((i : Int) < (q : Int)) = true := by simpa using hip
                            have hnp := neq_same
                            go_wp2_with fail
                            go_quiet (fail)
                            go_wp2_with fail
                            go_roundw
                            case rel => exact ⟨i + 1, by omega, by go_num, HG.out.drewN _⟩
                            case measure => simp [intOf]; omega
                        · as_aux_lemma =>
                            have hlook : ∀ n, (Instr.lookup 38 (.map (some (w.heap.size + 4))) (.string (keyB 109 i (c.pM i))) true).run Yba.prog (wr.drewN n) = .ok (.tuple #[.pointer none, .bool false]) (wr.drewN n) := by
                              intro n
                              have := (HG.out.drewN n).miss 4 i (Or.inr rfl) hip hlt
                              rw [HB.out] at this
                              exact this
                            have c4 : wr.cell? ⟨eM i, 4, none⟩ = some (.int .i32 0) := (HG.out.ent 4 i (Or.inr rfl) hlt).2 hip
                            have hd : decide ((i : Int) < (q : Int)) = false := by simpa using hip
                            go_wp2_with fail
                            go_quiet (fail)
                            go_wp2_with fail
                            go_roundw
                            case rel => exact ⟨i + 1, by omega, by go_num, HG.out.drewN _⟩
                            case measure => simp [intOf]; omega
                      · clear c16r
                        obtain ⟨wd, hwd⟩ : ∃ wd, wd = wr := ⟨_, rfl⟩
                        subst hwd
                        have HF7 : Hid (Fin c w wd eW eM nb wa.heap.size p q a5) := HG
                        have hle := HF7.out.le
                        have hnp := neq_same
                        have HBE : Hid (Below w.heap.size w wd) := by have := HF7.out.be; rwa [HB.out] at this
                        clear HG
                        by_cases h0p : p = 0
                        · have HBW : Hid (∀ n, Calls Yba.prog 14 #[.pointer (some ⟨w.heap.size, 10, none⟩)] (wd.drewN n) fun e w' => e = .returned (.pointer none) ∧ ∃ m, w' = (wd.drewN n).drewN m) := by
                            intro n
                            have := (HF7.out.drewN n).backNone 3 (Or.inl rfl) h0p
                            rw [HB.out] at this
                            exact this
                          by_cases h0q : q = 0
                          · as_aux_lemma =>
                              have HBM : Hid (∀ n, Calls Yba.prog 14 #[.pointer (some ⟨w.heap.size, 13, none⟩)] (wd.drewN n) fun e w' => e = .returned (.pointer none) ∧ ∃ m, w' = (wd.drewN n).drewN m) := by
                                intro n
                                have := (HF7.out.drewN n).backNone 4 (Or.inr rfl) h0q
                                rw [HB.out] at this
                                exact this
                              go_wp2_with fail
                              refine (HBW.out 0).mono ?_
                              rintro e w5 ⟨rfl, m5, hw5⟩
                              rw [World.drewN_drewN] at hw5
                              subst hw5
                              go_wp2_with fail
                              refine (HBM.out _).mono ?_
                              rintro e w6 ⟨rfl, m6, hw6⟩
                              rw [World.drewN_drewN] at hw6
                              subst hw6
                              go_wp2_with fail
                              go_ret
                              exact ⟨rfl, below_drewN HBE.out _⟩
                          · as_aux_lemma =>
                              have HBM : Hid (∀ n, Calls Yba.prog 14 #[.pointer (some ⟨w.heap.size, 13, none⟩)] (wd.drewN n) fun e w' => e = .returned (.pointer (some ⟨eM (q - 1), 0, none⟩)) ∧ ∃ m, w' = (wd.drewN n).drewN m) := by
                                intro n
                                have := (HF7.out.drewN n).back 4 (q - 1) (Or.inr rfl) (show q = q - 1 + 1 by omega)
                                rw [HB.out] at this
                                exact this
                              have cM : wd.cell? ⟨wa.heap.size, q - 1, none⟩ = some (.pointer (some ⟨eM (q - 1), 0, none⟩)) := by
                                have := HF7.out.r7.cell (show q - 1 < c.l4 by omega)
                                simpa [entRow, show q - 1 < c.l4 by omega] using this
                              have h1q : 1 ≤ q := by omega
                              go_wp2_with fail
                              refine (HBW.out 0).mono ?_
                              rintro e w5 ⟨rfl, m5, hw5⟩
                              rw [World.drewN_drewN] at hw5
                              subst hw5
                              go_wp2_with fail
                              refine (HBM.out _).mono ?_
                              rintro e w6 ⟨rfl, m6, hw6⟩
                              rw [World.drewN_drewN] at hw6
                              subst hw6
                              go_wp2_with fail
                              go_ret
                              exact ⟨rfl, below_drewN HBE.out _⟩
                        · have HBW : Hid (∀ n, Calls Yba.prog 14 #[.pointer (some ⟨w.heap.size, 10, none⟩)] (wd.drewN n) fun e w' => e = .returned (.pointer (some ⟨eW (p - 1), 0, none⟩)) ∧ ∃ m, w' = (wd.drewN n).drewN m) := by
                            intro n
                            have := (HF7.out.drewN n).back 3 (p - 1) (Or.inl rfl) (show p = p - 1 + 1 by omega)
                            rw [HB.out] at this
                            exact this
                          have cW : wd.cell? ⟨w.heap.size + 5, p - 1, none⟩ = some (.pointer (some ⟨eW (p - 1), 0, none⟩)) := by
                            have := HF7.out.r5.cell (show p - 1 < c.l3 by omega)
                            rw [HB.out] at this
                            simpa [entRow, show p - 1 < c.l3 by omega] using this
                          have h1p : 1 ≤ p := by omega
                          by_cases h0q : q = 0
                          · as_aux_lemma =>
                              have HBM : Hid (∀ n, Calls Yba.prog 14 #[.pointer (some ⟨w.heap.size, 13, none⟩)] (wd.drewN n) fun e w' => e = .returned (.pointer none) ∧ ∃ m, w' = (wd.drewN n).drewN m) := by
                                intro n
                                have := (HF7.out.drewN n).backNone 4 (Or.inr rfl) h0q
                                rw [HB.out] at this
                                exact this
                              go_wp2_with fail
                              refine (HBW.out 0).mono ?_
                              rintro e w5 ⟨rfl, m5, hw5⟩
                              rw [World.drewN_drewN] at hw5
                              subst hw5
                              go_wp2_with fail
                              refine (HBM.out _).mono ?_
                              rintro e w6 ⟨rfl, m6, hw6⟩
                              rw [World.drewN_drewN] at hw6
                              subst hw6
                              go_wp2_with fail
                              go_ret
                              exact ⟨rfl, below_drewN HBE.out _⟩
                          · as_aux_lemma =>
                              have HBM : Hid (∀ n, Calls Yba.prog 14 #[.pointer (some ⟨w.heap.size, 13, none⟩)] (wd.drewN n) fun e w' => e = .returned (.pointer (some ⟨eM (q - 1), 0, none⟩)) ∧ ∃ m, w' = (wd.drewN n).drewN m) := by
                                intro n
                                have := (HF7.out.drewN n).back 4 (q - 1) (Or.inr rfl) (show q = q - 1 + 1 by omega)
                                rw [HB.out] at this
                                exact this
                              have cM : wd.cell? ⟨wa.heap.size, q - 1, none⟩ = some (.pointer (some ⟨eM (q - 1), 0, none⟩)) := by
                                have := HF7.out.r7.cell (show q - 1 < c.l4 by omega)
                                simpa [entRow, show q - 1 < c.l4 by omega] using this
                              have h1q : 1 ≤ q := by omega
                              go_wp2_with fail
                              refine (HBW.out 0).mono ?_
                              rintro e w5 ⟨rfl, m5, hw5⟩
                              rw [World.drewN_drewN] at hw5
                              subst hw5
                              go_wp2_with fail
                              refine (HBM.out _).mono ?_
                              rintro e w6 ⟨rfl, m6, hw6⟩
                              rw [World.drewN_drewN] at hw6
                              subst hw6
                              go_wp2_with fail
                              go_ret
                              exact ⟨rfl, below_drewN HBE.out _⟩
end Trim
end Go.Proofs.Ybulkagbm
