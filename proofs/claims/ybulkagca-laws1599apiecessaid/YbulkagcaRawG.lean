/- THE CONTRACT OF Raw (function 5): onto a row of bytes of the call's own, from a source that lies elsewhere. -/
import Derived.Test.YbulkagcaEscG
import Derived.Test.YbulkagcaPlain
import Derived.Deep.LoopGhost
namespace Go.Proofs.Ybulkagca.G
open Go.RowKit

theorem raw0 (w : World) (B : Nat) (v : Value) (l : List Int) (a1 : Option Addr) (cap : Nat) (hown : Own w B v l) (hl : l.length ≤ 5000) (hB : B ≤ w.heap.size) :
    Calls Yba.prog 5 #[v, .slice a1 0 cap] w fun e w' => ∃ v', e = .returned v' ∧ Own w' B v' (l ++ [110, 117, 108, 108]) ∧ Below B w w' := by
  have HO : Hid (Own w B v l) := hown
  clear hown
  go_enter Yba.func5, Yba.ntmps5
  go_wp2_with (at_builtin; refine ap_string rfl (.tmp 11) _ rfl B v l rfl HO.out _ rfl ?hs hB ?_)
  case hs => simp [ByteArray.size]; omega
  · intro v' w' h1 h2
    go_wp2_with fail
    go_ret
    exact ⟨_, rfl, h1, h2⟩

theorem new1 (w : World) (c0 : Int) (j : Nat) (hj : j < 1) : (w.alloc (.cells #[.int .u8 c0] 5)).cell? ((⟨w.heap.size, 0, none⟩ : Addr).add j) = some (.int .u8 ([c0].getD j 0)) := by
  rw [Addr.add_lit, Nat.zero_add, World.cell?_alloc_at _ _ _ _ rfl]
  match j, hj with
  | 0, _ => rfl

set_option maxHeartbeats 6400000 in
set_option maxRecDepth 100000 in
theorem rawN (w : World) (B : Nat) (v : Value) (l : List Int) (b o n cap : Nat) (z : Nat → Int) (hown : Own w B v l) (hl : l.length ≤ 5000) (hB : B ≤ w.heap.size) (hn0 : 0 < n) (hn : n ≤ 5000) (hnc : n ≤ cap) (hcm : cap ≤ 9223372036854775807) (hb : b < B)
    (hsrc : ∀ i, i < n → w.cell? ⟨b, o + i, none⟩ = some (.int .u8 (z i))) (hz : ∀ i, 0 ≤ z i ∧ z i ≤ 255) :
    Calls Yba.prog 5 #[v, .slice (some ⟨b, o, none⟩) n cap] w fun e w' => ∃ v', e = .returned v' ∧ Own w' B v' (l ++ esc z n 0) ∧ Below B w w' := by
  have HO : Hid (Own w B v l) := hown
  have HS : Hid (∀ i, i < n → w.cell? ⟨b, o + i, none⟩ = some (.int .u8 (z i))) := hsrc
  have HZ : Hid (∀ i, 0 ≤ z i ∧ z i ≤ 255) := hz
  clear hown hsrc hz
  have hn00 : ((n : Int) == 0) = false := by simp; omega
  go_enter Yba.func5, Yba.ntmps5
  go_wp2_with fail
  go_loopg [0, 5, 6] n (fun g u dn ii wr => ∃ (i d : Nat) (acc : List Int), g = n - i ∧ i ≤ n ∧ d ≤ i ∧ dn = .int .i64 d ∧ ii = .int .i64 i ∧ Hid (Own wr B u (l ++ acc) ∧ acc.length ≤ 6 * d ∧ Inv z n i d acc ∧ Below B w wr))
  case atStart => exact ⟨0, 0, [], rfl, Nat.zero_le _, Nat.le_refl _, rfl, rfl, by simpa using HO.out, by simp, inv_start z n, Below.refl _ _⟩
  case round =>
    obtain ⟨i, d, acc, rfl, hi, hd, rfl, rfl, HR⟩ := hrel
    have hBr : B ≤ wr.heap.size := Nat.le_trans hB HR.out.2.2.2.size
    have HSEG : Hid (∀ j, j < i - d → wr.cell? ((⟨b, o + d, none⟩ : Addr).add j) = some (.int .u8 ((seg z d i).getD j 0))) := by
      intro j hj
      rw [Addr.add_lit, seg_getD z d i j hj, show o + d + j = o + (d + j) by omega]
      exact (HR.out.2.2.2.cell (p := ⟨b, o + (d + j), none⟩) hb).trans (HS.out (d + j) (by omega))
    by_cases hlt : i < n
    · obtain ⟨c, hc⟩ : ∃ c, c = z i := ⟨_, rfl⟩
      have HC : Hid (c = z i) := hc
      have hk : wr.cell? ⟨b, o + i, none⟩ = some (.int .u8 c) := by rw [hc]; exact (HR.out.2.2.2.cell (p := ⟨b, o + i, none⟩) hb).trans (HS.out i hlt)
      have hc0 : 0 ≤ c := by rw [hc]; exact (HZ.out i).1
      have hc1 : c ≤ 255 := by rw [hc]; exact (HZ.out i).2
      clear hc
      by_cases h60 : c = 60
      · subst h60
        have HI : Hid (Inv z n (i + 1) (i + 1) (acc ++ seg z d i ++ [92, 117, 48, 48, 51, 99])) := inv_esc HR.out.2.2.1 (esc_60 z n i hlt HC.out.symm)
        go_wp2_with (at_builtin; refine ap_slice rfl (.tmp 34) (.tmp 38) rfl B u0 (l ++ acc) rfl HR.out.1 ⟨b, o + d, none⟩ (i - d) (cap - d) (seg z d i) rfl (length_seg z d i) ?c60 ?s60 ?b60 ?_)
        case c60 => exact HSEG.out
        case s60 => have := HR.out.2.1; simp; omega
        case b60 => exact hBr
        · intro v1 w1 ho1 hb1
          go_wp2_with fail
          refine (esc60 w1 B v1 _ ho1 (by have := HR.out.2.1; simp [length_seg]; omega) (Nat.le_trans hBr hb1.size)).mono ?_
          rintro e w2 ⟨v2, rfl, ho2, hb2⟩
          go_wp2_with fail
          go_roundg (n - (i + 1))
          case rel =>
            refine ⟨i + 1, i + 1, acc ++ seg z d i ++ [92, 117, 48, 48, 51, 99], rfl, by omega, Nat.le_refl _, by go_num, by go_num, ?_, ?_, HI.out, (HR.out.2.2.2.trans hb1).trans hb2⟩
            · simpa using ho2
            · have := HR.out.2.1; simp [length_seg]; omega
          case measure => omega
      by_cases h62 : c = 62
      · subst h62
        have HI : Hid (Inv z n (i + 1) (i + 1) (acc ++ seg z d i ++ [92, 117, 48, 48, 51, 101])) := inv_esc HR.out.2.2.1 (esc_62 z n i hlt HC.out.symm)
        go_wp2_with (at_builtin; refine ap_slice rfl (.tmp 34) (.tmp 38) rfl B u0 (l ++ acc) rfl HR.out.1 ⟨b, o + d, none⟩ (i - d) (cap - d) (seg z d i) rfl (length_seg z d i) ?c62 ?s62 ?b62 ?_)
        case c62 => exact HSEG.out
        case s62 => have := HR.out.2.1; simp; omega
        case b62 => exact hBr
        · intro v1 w1 ho1 hb1
          go_wp2_with fail
          refine (esc62 w1 B v1 _ ho1 (by have := HR.out.2.1; simp [length_seg]; omega) (Nat.le_trans hBr hb1.size)).mono ?_
          rintro e w2 ⟨v2, rfl, ho2, hb2⟩
          go_wp2_with fail
          go_roundg (n - (i + 1))
          case rel =>
            refine ⟨i + 1, i + 1, acc ++ seg z d i ++ [92, 117, 48, 48, 51, 101], rfl, by omega, Nat.le_refl _, by go_num, by go_num, ?_, ?_, HI.out, (HR.out.2.2.2.trans hb1).trans hb2⟩
            · simpa using ho2
            · have := HR.out.2.1; simp [length_seg]; omega
          case measure => omega
      by_cases h38 : c = 38
      · subst h38
        have HI : Hid (Inv z n (i + 1) (i + 1) (acc ++ seg z d i ++ [92, 117, 48, 48, 50, 54])) := inv_esc HR.out.2.2.1 (esc_38 z n i hlt HC.out.symm)
        go_wp2_with (at_builtin; refine ap_slice rfl (.tmp 34) (.tmp 38) rfl B u0 (l ++ acc) rfl HR.out.1 ⟨b, o + d, none⟩ (i - d) (cap - d) (seg z d i) rfl (length_seg z d i) ?c38 ?s38 ?b38 ?_)
        case c38 => exact HSEG.out
        case s38 => have := HR.out.2.1; simp; omega
        case b38 => exact hBr
        · intro v1 w1 ho1 hb1
          go_wp2_with fail
          refine (esc38 w1 B v1 _ ho1 (by have := HR.out.2.1; simp [length_seg]; omega) (Nat.le_trans hBr hb1.size)).mono ?_
          rintro e w2 ⟨v2, rfl, ho2, hb2⟩
          go_wp2_with fail
          go_roundg (n - (i + 1))
          case rel =>
            refine ⟨i + 1, i + 1, acc ++ seg z d i ++ [92, 117, 48, 48, 50, 54], rfl, by omega, Nat.le_refl _, by go_num, by go_num, ?_, ?_, HI.out, (HR.out.2.2.2.trans hb1).trans hb2⟩
            · simpa using ho2
            · have := HR.out.2.1; simp [length_seg]; omega
          case measure => omega
      by_cases hs0 : c = 226
      · subst hs0
        by_cases hs1 : i + 2 < n
        · obtain ⟨c1, hcc1⟩ : ∃ c1, c1 = z (i + 1) := ⟨_, rfl⟩
          have HC1 : Hid (c1 = z (i + 1)) := hcc1
          have hk1 : wr.cell? ⟨b, o + (i + 1), none⟩ = some (.int .u8 c1) := by rw [hcc1]; exact (HR.out.2.2.2.cell (p := ⟨b, o + (i + 1), none⟩) hb).trans (HS.out (i + 1) (by omega))
          have hc10 : 0 ≤ c1 := by rw [hcc1]; exact (HZ.out _).1
          have hc11 : c1 ≤ 255 := by rw [hcc1]; exact (HZ.out _).2
          clear hcc1
          obtain ⟨c2, hcc2⟩ : ∃ c2, c2 = z (i + 2) := ⟨_, rfl⟩
          have HC2 : Hid (c2 = z (i + 2)) := hcc2
          have hk2 : wr.cell? ⟨b, o + (i + 2), none⟩ = some (.int .u8 c2) := by rw [hcc2]; exact (HR.out.2.2.2.cell (p := ⟨b, o + (i + 2), none⟩) hb).trans (HS.out (i + 2) (by omega))
          have hc20 : 0 ≤ c2 := by rw [hcc2]; exact (HZ.out _).1
          have hc21 : c2 ≤ 255 := by rw [hcc2]; exact (HZ.out _).2
          clear hcc2
          by_cases hs2 : c1 = 128
          · subst hs2
            by_cases h168 : c2 = 168
            · subst h168
              have HI : Hid (Inv z n (i + 3) (i + 3) (acc ++ seg z d i ++ [92, 117, 50, 48, 50, 56])) := inv_esc HR.out.2.2.1 (esc_8 z n i hs1 HC.out.symm HC1.out.symm HC2.out.symm)
              have hbit : bits BinOp.and IntKind.u8 168 15 = 8 := by decide
              go_wp2_with (at_builtin; refine ap_slice rfl (.tmp 79) (.tmp 83) rfl B u0 (l ++ acc) rfl HR.out.1 ⟨b, o + d, none⟩ (i - d) (cap - d) (seg z d i) rfl (length_seg z d i) ?c168 ?s168 ?b168 ?_)
              case c168 => exact HSEG.out
              case s168 => have := HR.out.2.1; simp; omega
              case b168 => exact hBr
              · intro v1 w1 ho1 hb1
                go_wp2_with (at_builtin; refine ap_string rfl (.tmp 85) _ rfl B v1 _ rfl ho1 _ rfl ?t168 ?u168 ?_)
                case t168 => have := HR.out.2.1; simp [length_seg, ByteArray.size]; omega
                case u168 => exact Nat.le_trans hBr hb1.size
                · intro v2 w2 ho2 hb2
                  have hc2w : w2.cell? ⟨b, o + (i + 2), none⟩ = some (.int .u8 168) := (((hb1.trans hb2).cell (p := ⟨b, o + (i + 2), none⟩) hb)).trans hk2
                  have hB2 : B ≤ w2.heap.size := Nat.le_trans (Nat.le_trans hBr hb1.size) hb2.size
                  go_wp2_with (at_builtin; refine ap_slice rfl (.tmp 87) (.tmp 95) rfl B v2 _ rfl (ho2.alloc _) ⟨w2.heap.size, 0, none⟩ 1 1 [56] rfl rfl ?x168 ?y168 ?z168 ?_)
                  case x168 => intro j hj; exact new1 w2 _ j hj
                  case y168 => have := HR.out.2.1; simp [length_seg, bytesI]; omega
                  case z168 => simp; omega
                  · intro v3 w3 ho3 hb3
                    have hbb : Below B w w3 := ((HR.out.2.2.2.trans (hb1.trans hb2)).alloc hB2 _).trans hb3
                    clear hb1 hb2 hb3 ho1 ho2
                    go_wp2_with fail
                    go_roundg (n - (i + 3))
                    case rel =>
                      refine ⟨i + 3, i + 3, acc ++ seg z d i ++ [92, 117, 50, 48, 50, 56], rfl, by omega, Nat.le_refl _, by go_num, by go_num, ?_, ?_, HI.out, hbb⟩
                      · have e : l ++ (acc ++ (seg z d i ++ (bytesI { data := #[92, 117, 50, 48, 50] } ++ [56]))) = l ++ (acc ++ seg z d i ++ [92, 117, 50, 48, 50, 56]) := by simp [bytesI]
                        rw [← e]; exact ho3
                      · have := HR.out.2.1; simp [length_seg]; omega
                    case measure => omega
            by_cases h169 : c2 = 169
            · subst h169
              have HI : Hid (Inv z n (i + 3) (i + 3) (acc ++ seg z d i ++ [92, 117, 50, 48, 50, 57])) := inv_esc HR.out.2.2.1 (esc_9 z n i hs1 HC.out.symm HC1.out.symm HC2.out.symm)
              have hbit : bits BinOp.and IntKind.u8 169 15 = 9 := by decide
              go_wp2_with (at_builtin; refine ap_slice rfl (.tmp 79) (.tmp 83) rfl B u0 (l ++ acc) rfl HR.out.1 ⟨b, o + d, none⟩ (i - d) (cap - d) (seg z d i) rfl (length_seg z d i) ?c169 ?s169 ?b169 ?_)
              case c169 => exact HSEG.out
              case s169 => have := HR.out.2.1; simp; omega
              case b169 => exact hBr
              · intro v1 w1 ho1 hb1
                go_wp2_with (at_builtin; refine ap_string rfl (.tmp 85) _ rfl B v1 _ rfl ho1 _ rfl ?t169 ?u169 ?_)
                case t169 => have := HR.out.2.1; simp [length_seg, ByteArray.size]; omega
                case u169 => exact Nat.le_trans hBr hb1.size
                · intro v2 w2 ho2 hb2
                  have hc2w : w2.cell? ⟨b, o + (i + 2), none⟩ = some (.int .u8 169) := (((hb1.trans hb2).cell (p := ⟨b, o + (i + 2), none⟩) hb)).trans hk2
                  have hB2 : B ≤ w2.heap.size := Nat.le_trans (Nat.le_trans hBr hb1.size) hb2.size
                  go_wp2_with (at_builtin; refine ap_slice rfl (.tmp 87) (.tmp 95) rfl B v2 _ rfl (ho2.alloc _) ⟨w2.heap.size, 0, none⟩ 1 1 [57] rfl rfl ?x169 ?y169 ?z169 ?_)
                  case x169 => intro j hj; exact new1 w2 _ j hj
                  case y169 => have := HR.out.2.1; simp [length_seg, bytesI]; omega
                  case z169 => simp; omega
                  · intro v3 w3 ho3 hb3
                    have hbb : Below B w w3 := ((HR.out.2.2.2.trans (hb1.trans hb2)).alloc hB2 _).trans hb3
                    clear hb1 hb2 hb3 ho1 ho2
                    go_wp2_with fail
                    go_roundg (n - (i + 3))
                    case rel =>
                      refine ⟨i + 3, i + 3, acc ++ seg z d i ++ [92, 117, 50, 48, 50, 57], rfl, by omega, Nat.le_refl _, by go_num, by go_num, ?_, ?_, HI.out, hbb⟩
                      · have e : l ++ (acc ++ (seg z d i ++ (bytesI { data := #[92, 117, 50, 48, 50] } ++ [57]))) = l ++ (acc ++ seg z d i ++ [92, 117, 50, 48, 50, 57]) := by simp [bytesI]
                        rw [← e]; exact ho3
                      · have := HR.out.2.1; simp [length_seg]; omega
                    case measure => omega
            have HP : Hid (Inv z n (i + 1) d acc) := inv_plain HR.out.2.2.1 hd (esc_plain z n i hlt (by have := HC.out; omega) (by have := HC.out; omega) (by have := HC.out; omega) (fun e => by have := HC2.out; omega))
            have e168 : (c2 == 168) = false := by simpa using h168
            have e169 : (c2 == 169) = false := by simpa using h169
            go_wp2_with fail
            go_roundg (n - (i + 1))
            case rel => exact ⟨i + 1, d, acc, rfl, by omega, by omega, by go_num, by go_num, HR.out.1, HR.out.2.1, HP.out, HR.out.2.2.2⟩
            case measure => omega
          · have HP : Hid (Inv z n (i + 1) d acc) := inv_plain HR.out.2.2.1 hd (esc_plain z n i hlt (by have := HC.out; omega) (by have := HC.out; omega) (by have := HC.out; omega) (fun e => by have := HC1.out; omega))
            have e128 : (c1 == 128) = false := by simpa using hs2
            go_wp2_with fail
            go_roundg (n - (i + 1))
            case rel => exact ⟨i + 1, d, acc, rfl, by omega, by omega, by go_num, by go_num, HR.out.1, HR.out.2.1, HP.out, HR.out.2.2.2⟩
            case measure => omega
        · have HP : Hid (Inv z n (i + 1) d acc) := inv_plain HR.out.2.2.1 hd (esc_plain z n i hlt (by have := HC.out; omega) (by have := HC.out; omega) (by have := HC.out; omega) (fun e => by omega))
          go_wp2_with fail
          go_roundg (n - (i + 1))
          case rel => exact ⟨i + 1, d, acc, rfl, by omega, by omega, by go_num, by go_num, HR.out.1, HR.out.2.1, HP.out, HR.out.2.2.2⟩
          case measure => omega
      · have HP : Hid (Inv z n (i + 1) d acc) := inv_plain HR.out.2.2.1 hd (esc_plain z n i hlt (by have := HC.out; omega) (by have := HC.out; omega) (by have := HC.out; omega) (fun e => by have := HC.out; omega))
        have e60 : (c == 60) = false := by simpa using h60
        have e62 : (c == 62) = false := by simpa using h62
        have e38 : (c == 38) = false := by simpa using h38
        have e226 : (c == 226) = false := by simpa using hs0
        go_wp2_with fail
        go_roundg (n - (i + 1))
        case rel => exact ⟨i + 1, d, acc, rfl, by omega, by omega, by go_num, by go_num, HR.out.1, HR.out.2.1, HP.out, HR.out.2.2.2⟩
        case measure => omega
    · have hin : i = n := by omega
      subst hin
      have HEND : Hid (l ++ (acc ++ seg z d i) = l ++ esc z i 0) := by rw [Hid, inv_end HR.out.2.2.1]
      by_cases hdc : cap = d
      · obtain rfl : d = i := by omega
        subst hdc
        have HEND2 : Hid (l ++ acc = l ++ esc z cap 0) := by have := HEND.out; rwa [seg_nil, List.append_nil] at this
        clear HEND HSEG
        go_wp2_with (at_builtin; refine ap_slice rfl (.tmp 101) (.tmp 104) rfl B u0 (l ++ acc) rfl HR.out.1 ⟨b, o, none⟩ 0 0 [] rfl rfl ?hc ?hs ?hb ?_)
        case hc => intro j hj; exact absurd hj (Nat.not_lt_zero _)
        case hs => have := HR.out.2.1; simp; omega
        case hb => exact hBr
        · intro v1 w1 ho1 hb1
          rw [HEND2.out] at ho1
          go_wp2_with fail
          go_ret
          exact ⟨_, rfl, ho1, HR.out.2.2.2.trans hb1⟩
      · go_wp2_with (at_builtin; refine ap_slice rfl (.tmp 101) (.tmp 104) rfl B u0 (l ++ acc) rfl HR.out.1 ⟨b, o + d, none⟩ (i - d) (cap - d) (seg z d i) rfl (length_seg z d i) ?hc2 ?hs2 ?hb2 ?_)
        case hc2 => exact HSEG.out
        case hs2 => have := HR.out.2.1; simp; omega
        case hb2 => exact hBr
        · intro v1 w1 ho1 hb1
          rw [HEND.out] at ho1
          go_wp2_with fail
          go_ret
          exact ⟨_, rfl, ho1, HR.out.2.2.2.trans hb1⟩
end Go.Proofs.Ybulkagca.G
