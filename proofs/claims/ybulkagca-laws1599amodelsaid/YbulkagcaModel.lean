/- THE CONTRACT OF zzs1599amodel (function 7). -/
import Derived.Test.YbulkagcaRaw
import Derived.Laws.AppendOwnNone
namespace Go.Proofs.Ybulkagca
open Go.RowKit

/-- append of a slice that may be nil. -/
theorem ap_any {ops : Array Oper} {rest : List Oper} {op : Oper} {a : Act} {w : World} {Q : Exit → Act → World → Prop} (hgd : op.guard = none) (s x : Operand) (ho : op.op = .call { callee := .builtin .append, args := #[s, x], argTypes := #[22, 22] })
    (B : Nat) (v : Value) (l : List Int) (hs : a.eval s = v) (hown : Own w B v l) (ao : Option Addr) (m c : Nat) (news : List Int) (hx : a.eval x = .slice ao m c) (hl : news.length = m) (hnone : ao = none → m = 0 ∧ c = 0)
    (hnews : ∀ ad, ao = some ad → ∀ j, j < m → w.cell? (ad.add j) = some (.int .u8 (news.getD j 0))) (hsz : l.length + m ≤ 1000000) (hB : B ≤ w.heap.size)
    (h : ∀ v' w', Own w' B v' (l ++ news) → Below B w w' → wpList Yba.prog ops Q rest (a.put op.dst v') w') : wpList Yba.prog ops Q (op :: rest) a w := by
  cases ao with
  | some ad => exact ap_slice hgd s x ho B v l hs hown ad m c news hx hl (hnews ad rfl) hsz hB h
  | none =>
    obtain ⟨rfl, rfl⟩ := hnone rfl
    obtain rfl : news = [] := List.eq_nil_of_length_eq_zero hl
    obtain ⟨i0, hi, hz0, hz1, hz2⟩ := info_parts info5
    refine wpList_plain hgd fun K hK' => ?_
    have hrun := run_append_owned_none (P := Yba.prog) w B 22 op.type 5 i0 1 Yba.underlying22 hi _ l.length _ hown
    unfold Oper.wp
    simp [execOp, ho, resolve, invoke, builtin, hs, hx, hrun, Result.andThen]
    exact hK' _ _ (by simpa using h v w (by simpa using hown) (Below.refl _ _))

theorem new4 (w : World) (c0 c1 c2 c3 : Int) (j : Nat) (hj : j < 4) : (w.alloc (.cells #[.int .u8 c0, .int .u8 c1, .int .u8 c2, .int .u8 c3] 5)).cell? ((⟨w.heap.size, 0, none⟩ : Addr).add j) = some (.int .u8 ([c0, c1, c2, c3].getD j 0)) := by
  rw [Addr.add_lit, Nat.zero_add, World.cell?_alloc_at _ _ _ _ rfl]
  match j, hj with
  | 0, _ => rfl
  | 1, _ => rfl
  | 2, _ => rfl
  | 3, _ => rfl

set_option maxHeartbeats 1600000 in
theorem model0 (w : World) (a0 : Option Addr) (n0 cap0 : Nat) (y : List Int) (a1 : Option Addr) (cap1 : Nat) (hy : y.length = n0) (hn0 : n0 ≤ 5000) (hnone : a0 = none → n0 = 0 ∧ cap0 = 0)
    (hsrc : ∀ ad, a0 = some ad → ∀ j, j < n0 → ad.block < w.heap.size ∧ w.cell? (ad.add j) = some (.int .u8 (y.getD j 0))) :
    Calls Yba.prog 7 #[.slice a0 n0 cap0, .slice a1 0 cap1] w fun e w' => ∃ v', e = .returned v' ∧ Own w' w.heap.size v' (y ++ [110, 117, 108, 108]) ∧ Below w.heap.size w w' := by
  obtain ⟨i0, hi0, hz0, hz1, hz2⟩ := info_parts info5
  have HSRC : Hid (∀ ad, a0 = some ad → ∀ j, j < n0 → ad.block < w.heap.size ∧ w.cell? (ad.add j) = some (.int .u8 (y.getD j 0))) := hsrc
  have HN : Hid (a0 = none → n0 = 0 ∧ cap0 = 0) := hnone
  have HY : Hid (y.length = n0) := hy
  clear hsrc hnone hy
  go_enter Yba.func7, Yba.ntmps7
  go_wp2_with (at_make; refine wpList_make_own _ rfl _ _ 22 rfl w.heap.size 5 i0 (.int .u8 0) 1 Yba.underlying22 hi0 hz0 hz1 _ _ _ (n0 + 4) rfl rfl (by omega) ?m1 ?m2 ?m3 ?_)
  case m1 => rw [hz2]; omega
  case m2 => unfold maxLen; omega
  case m3 => exact Nat.le_refl _
  intro w1 ho1 hg1
  have HO1 : Hid (Own w1 w.heap.size (.slice (some ⟨w.heap.size, 0, none⟩) 0 (n0 + 4)) []) := ho1
  have hb1 : Below w.heap.size w w1 := (Below.refl _ _).grown hg1 (Nat.le_refl _) (fun k hk => by cases hk)
  have hs1 : w.heap.size ≤ w1.heap.size := hb1.size
  clear ho1 hg1
  go_wp2_with (at_builtin; refine ap_any rfl (.tmp 16) (.tmp 17) rfl w.heap.size _ [] rfl HO1.out a0 n0 cap0 y rfl HY.out HN.out ?p1 ?p2 hs1 ?_)
  case p1 =>
    intro ad had j hj
    obtain ⟨q1, q2⟩ := HSRC.out ad had j hj
    exact (hb1.cell (by unfold Addr.add; split <;> exact q1)).trans q2
  case p2 => simp; omega
  intro v2 w2 ho2 hb2
  have HO2 : Hid (Own w2 w.heap.size v2 y) := ho2
  have hb : Below w.heap.size w w2 := hb1.trans hb2
  have hs2 : w.heap.size ≤ w2.heap.size := hb.size
  have hylen : y.length ≤ 5000 := by have := HY.out; omega
  clear ho2 hb1 hb2 hs1 HO1
  go_wp2_with (at_builtin; refine ap_slice rfl (.tmp 22) (.tmp 23) rfl w.heap.size v2 y rfl (HO2.out.alloc _) ⟨w2.heap.size, 0, none⟩ 4 4 [110, 117, 108, 108] rfl rfl (fun j hj => new4 w2 _ _ _ _ j hj) (by omega) (by simp; omega) ?_)
  intro v3 w3 ho3 hb3
  go_wp2_with fail
  go_ret
  exact ⟨_, rfl, ho3, (hb.alloc hs2 _).trans hb3⟩

set_option maxHeartbeats 6400000 in
set_option maxRecDepth 100000 in
theorem modelN (w : World) (a0 : Option Addr) (n0 cap0 : Nat) (y : List Int) (b o n cap : Nat) (z : Nat → Int) (hy : y.length = n0) (hn0 : n0 ≤ 5000) (hnone : a0 = none → n0 = 0 ∧ cap0 = 0)
    (hsrc : ∀ ad, a0 = some ad → ∀ j, j < n0 → ad.block < w.heap.size ∧ w.cell? (ad.add j) = some (.int .u8 (y.getD j 0))) (hnp : 0 < n) (hn : n ≤ 5000) (hbw : b < w.heap.size)
    (hz : ∀ i, i < n → w.cell? ⟨b, o + i, none⟩ = some (.int .u8 (z i))) (hzr : ∀ i, 0 ≤ z i ∧ z i ≤ 255) :
    Calls Yba.prog 7 #[.slice a0 n0 cap0, .slice (some ⟨b, o, none⟩) n cap] w fun e w' => ∃ v', e = .returned v' ∧ Own w' w.heap.size v' (y ++ esc z n 0) ∧ Below w.heap.size w w' := by
  obtain ⟨i0, hi0, hz0, hz1, hz2⟩ := info_parts info5
  have HSRC : Hid (∀ ad, a0 = some ad → ∀ j, j < n0 → ad.block < w.heap.size ∧ w.cell? (ad.add j) = some (.int .u8 (y.getD j 0))) := hsrc
  have HN : Hid (a0 = none → n0 = 0 ∧ cap0 = 0) := hnone
  have HY : Hid (y.length = n0) := hy
  have HS : Hid (∀ i, i < n → w.cell? ⟨b, o + i, none⟩ = some (.int .u8 (z i))) := hz
  have HZ : Hid (∀ i, 0 ≤ z i ∧ z i ≤ 255) := hzr
  have hn00 : ((n : Int) == 0) = false := by simp; omega
  clear hsrc hnone hy hz hzr
  go_enter Yba.func7, Yba.ntmps7
  go_wp2_with (at_make; refine wpList_make_own _ rfl _ _ 22 rfl w.heap.size 5 i0 (.int .u8 0) 1 Yba.underlying22 hi0 hz0 hz1 _ _ _ (n0 + 6 * n + 4) rfl rfl (by omega) ?m1 ?m2 ?m3 ?_)
  case m1 => rw [hz2]; omega
  case m2 => unfold maxLen; omega
  case m3 => exact Nat.le_refl _
  intro w1 ho1 hg1
  have HO1 : Hid (Own w1 w.heap.size (.slice (some ⟨w.heap.size, 0, none⟩) 0 (n0 + 6 * n + 4)) []) := ho1
  have hb1 : Below w.heap.size w w1 := (Below.refl _ _).grown hg1 (Nat.le_refl _) (fun k hk => by cases hk)
  have hs1 : w.heap.size ≤ w1.heap.size := hb1.size
  clear ho1 hg1
  go_wp2_with (at_builtin; refine ap_any rfl (.tmp 16) (.tmp 17) rfl w.heap.size _ [] rfl HO1.out a0 n0 cap0 y rfl HY.out HN.out ?p1 ?p2 hs1 ?_)
  case p1 =>
    intro ad had j hj
    obtain ⟨q1, q2⟩ := HSRC.out ad had j hj
    exact (hb1.cell (by unfold Addr.add; split <;> exact q1)).trans q2
  case p2 => simp; omega
  intro v2 w2 ho2 hb2
  have HO2 : Hid (Own w2 w.heap.size v2 y) := ho2
  have HB2 : Hid (Below w.heap.size w w2) := hb1.trans hb2
  have hylen : y.length ≤ 5000 := by have := HY.out; omega
  clear ho2 hb1 hb2 hs1 HO1
  obtain ⟨B, hBw⟩ : ∃ B, B = w.heap.size := ⟨_, rfl⟩
  have hB : B ≤ w.heap.size := Nat.le_of_eq hBw
  have hb : b < B := by omega
  rw [← hBw] at HO2 HB2
  have HBW : Hid (B = w.heap.size) := hBw
  clear hBw hbw
  go_wp2_with fail
  go_loopg [5, 6] n (fun g u ii wr => ∃ (i : Nat) (acc : List Int), g = n - i ∧ i ≤ n ∧ ii = .int .i64 i ∧ Hid (Own wr B u (y ++ acc) ∧ acc.length ≤ 6 * i ∧ acc ++ esc z n i = esc z n 0 ∧ Below B w wr))
  case atStart => exact ⟨0, [], rfl, Nat.zero_le _, rfl, by simpa using HO2.out, by simp, rfl, HB2.out⟩
  case round =>
    obtain ⟨i, acc, rfl, hi, rfl, HR⟩ := hrel
    have hBr : B ≤ wr.heap.size := Nat.le_trans hB HR.out.2.2.2.size
    by_cases hlt : i < n
    · obtain ⟨c, hc⟩ : ∃ c, c = z i := ⟨_, rfl⟩
      have HC : Hid (c = z i) := hc
      have hk : wr.cell? ⟨b, o + i, none⟩ = some (.int .u8 c) := by rw [hc]; exact (HR.out.2.2.2.cell (p := ⟨b, o + i, none⟩) hb).trans (HS.out i hlt)
      have hc0 : 0 ≤ c := by rw [hc]; exact (HZ.out i).1
      have hc1 : c ≤ 255 := by rw [hc]; exact (HZ.out i).2
      clear hc
      by_cases h60 : c = 60
      · subst h60
        have HI : Hid (acc ++ [92, 117, 48, 48, 51, 99] ++ esc z n (i + 1) = esc z n 0) := by rw [Hid, List.append_assoc, ← esc_60 z n i hlt HC.out.symm]; exact HR.out.2.2.1
        go_wp2_with (at_builtin; refine ap_slice rfl (.tmp 35) (.tmp 36) rfl B u5 (y ++ acc) rfl (HR.out.1.alloc _) ⟨wr.heap.size, 0, none⟩ 6 6 [92, 117, 48, 48, 51, 99] rfl rfl ?c60 ?s60 ?b60 ?_)
        case c60 => intro j hj; exact new6 wr _ _ _ _ _ _ j hj
        case s60 => have := HR.out.2.1; simp; omega
        case b60 => simp; omega
        · intro v1 w1 ho1 hb1
          have hbb : Below B w w1 := (HR.out.2.2.2.alloc hBr _).trans hb1
          clear hb1
          go_wp2_with fail
          go_roundg (n - (i + 1))
          case measure => omega
          case rel =>
            refine ⟨i + 1, acc ++ [92, 117, 48, 48, 51, 99], rfl, by omega, by go_num, ?_, ?_, HI.out, hbb⟩
            · simpa using ho1
            · have := HR.out.2.1; simp; omega
      by_cases h62 : c = 62
      · subst h62
        have HI : Hid (acc ++ [92, 117, 48, 48, 51, 101] ++ esc z n (i + 1) = esc z n 0) := by rw [Hid, List.append_assoc, ← esc_62 z n i hlt HC.out.symm]; exact HR.out.2.2.1
        go_wp2_with (at_builtin; refine ap_slice rfl (.tmp 42) (.tmp 43) rfl B u5 (y ++ acc) rfl (HR.out.1.alloc _) ⟨wr.heap.size, 0, none⟩ 6 6 [92, 117, 48, 48, 51, 101] rfl rfl ?c62 ?s62 ?b62 ?_)
        case c62 => intro j hj; exact new6 wr _ _ _ _ _ _ j hj
        case s62 => have := HR.out.2.1; simp; omega
        case b62 => simp; omega
        · intro v1 w1 ho1 hb1
          have hbb : Below B w w1 := (HR.out.2.2.2.alloc hBr _).trans hb1
          clear hb1
          go_wp2_with fail
          go_roundg (n - (i + 1))
          case measure => omega
          case rel =>
            refine ⟨i + 1, acc ++ [92, 117, 48, 48, 51, 101], rfl, by omega, by go_num, ?_, ?_, HI.out, hbb⟩
            · simpa using ho1
            · have := HR.out.2.1; simp; omega
      by_cases h38 : c = 38
      · subst h38
        have HI : Hid (acc ++ [92, 117, 48, 48, 50, 54] ++ esc z n (i + 1) = esc z n 0) := by rw [Hid, List.append_assoc, ← esc_38 z n i hlt HC.out.symm]; exact HR.out.2.2.1
        go_wp2_with (at_builtin; refine ap_slice rfl (.tmp 49) (.tmp 50) rfl B u5 (y ++ acc) rfl (HR.out.1.alloc _) ⟨wr.heap.size, 0, none⟩ 6 6 [92, 117, 48, 48, 50, 54] rfl rfl ?c38 ?s38 ?b38 ?_)
        case c38 => intro j hj; exact new6 wr _ _ _ _ _ _ j hj
        case s38 => have := HR.out.2.1; simp; omega
        case b38 => simp; omega
        · intro v1 w1 ho1 hb1
          have hbb : Below B w w1 := (HR.out.2.2.2.alloc hBr _).trans hb1
          clear hb1
          go_wp2_with fail
          go_roundg (n - (i + 1))
          case measure => omega
          case rel =>
            refine ⟨i + 1, acc ++ [92, 117, 48, 48, 50, 54], rfl, by omega, by go_num, ?_, ?_, HI.out, hbb⟩
            · simpa using ho1
            · have := HR.out.2.1; simp; omega
      by_cases hs0 : c = 226
      · subst hs0
        by_cases hs1 : i + 2 < n
        · obtain ⟨c1, hcc1⟩ : ∃ c1, c1 = z (i + 1) := ⟨_, rfl⟩
          have HC1 : Hid (c1 = z (i + 1)) := hcc1
          have hk1 : wr.cell? ⟨b, o + (i + 1), none⟩ = some (.int .u8 c1) := by rw [hcc1]; exact (HR.out.2.2.2.cell (p := ⟨b, o + (i + 1), none⟩) hb).trans (HS.out (i + 1) (by omega))
          have hc10 : 0 ≤ c1 := by rw [hcc1]; exact (HZ.out _).1
          have hc11 : c1 ≤ 255 := by rw [hcc1]; exact (HZ.out _).2
          clear hcc1
          obtain ⟨c2, hcc2⟩ : ∃ c2, c2 = z (i + 2) := ⟨_, rfl⟩
          have HC2 : Hid (c2 = z (i + 2)) := hcc2
          have hk2 : wr.cell? ⟨b, o + (i + 2), none⟩ = some (.int .u8 c2) := by rw [hcc2]; exact (HR.out.2.2.2.cell (p := ⟨b, o + (i + 2), none⟩) hb).trans (HS.out (i + 2) (by omega))
          have hc20 : 0 ≤ c2 := by rw [hcc2]; exact (HZ.out _).1
          have hc21 : c2 ≤ 255 := by rw [hcc2]; exact (HZ.out _).2
          clear hcc2
          by_cases hs2 : c1 = 128
          · subst hs2
            by_cases h168 : c2 = 168
            · subst h168
              have HI : Hid (acc ++ [92, 117, 50, 48, 50, 56] ++ esc z n (i + 3) = esc z n 0) := by rw [Hid, List.append_assoc, ← esc_8 z n i hs1 HC.out.symm HC1.out.symm HC2.out.symm]; exact HR.out.2.2.1
              go_wp2_with (at_builtin; refine ap_slice rfl (.tmp 79) (.tmp 80) rfl B u5 (y ++ acc) rfl (HR.out.1.alloc _) ⟨wr.heap.size, 0, none⟩ 6 6 [92, 117, 50, 48, 50, 56] rfl rfl ?c168 ?s168 ?b168 ?_)
              case c168 => intro j hj; exact new6 wr _ _ _ _ _ _ j hj
              case s168 => have := HR.out.2.1; simp; omega
              case b168 => simp; omega
              · intro v1 w1 ho1 hb1
                have hbb : Below B w w1 := (HR.out.2.2.2.alloc hBr _).trans hb1
                clear hb1
                go_wp2_with fail
                go_roundg (n - (i + 3))
                case measure => omega
                case rel =>
                  refine ⟨i + 3, acc ++ [92, 117, 50, 48, 50, 56], rfl, by omega, by go_num, ?_, ?_, HI.out, hbb⟩
                  · simpa using ho1
                  · have := HR.out.2.1; simp; omega
            by_cases h169 : c2 = 169
            · subst h169
              have HI : Hid (acc ++ [92, 117, 50, 48, 50, 57] ++ esc z n (i + 3) = esc z n 0) := by rw [Hid, List.append_assoc, ← esc_9 z n i hs1 HC.out.symm HC1.out.symm HC2.out.symm]; exact HR.out.2.2.1
              go_wp2_with (at_builtin; refine ap_slice rfl (.tmp 109) (.tmp 110) rfl B u5 (y ++ acc) rfl (HR.out.1.alloc _) ⟨wr.heap.size, 0, none⟩ 6 6 [92, 117, 50, 48, 50, 57] rfl rfl ?c169 ?s169 ?b169 ?_)
              case c169 => intro j hj; exact new6 wr _ _ _ _ _ _ j hj
              case s169 => have := HR.out.2.1; simp; omega
              case b169 => simp; omega
              · intro v1 w1 ho1 hb1
                have hbb : Below B w w1 := (HR.out.2.2.2.alloc hBr _).trans hb1
                clear hb1
                go_wp2_with fail
                go_roundg (n - (i + 3))
                case measure => omega
                case rel =>
                  refine ⟨i + 3, acc ++ [92, 117, 50, 48, 50, 57], rfl, by omega, by go_num, ?_, ?_, HI.out, hbb⟩
                  · simpa using ho1
                  · have := HR.out.2.1; simp; omega
            have HP : Hid (esc z n i = z i :: esc z n (i + 1)) := esc_plain z n i hlt (by have := HC.out; omega) (by have := HC.out; omega) (by have := HC.out; omega) (fun e => by have := HC2.out; omega)
            have e168 : (c2 == 168) = false := by simpa using h168
            have e169 : (c2 == 169) = false := by simpa using h169
            have HI : Hid (acc ++ [226] ++ esc z n (i + 1) = esc z n 0) := by
              have h1 := HR.out.2.2.1
              rw [HP.out] at h1
              rw [Hid, ← h1, HC.out]
              simp
            go_wp2_with (at_builtin; refine ap_slice rfl (.tmp 114) (.tmp 116) rfl B u5 (y ++ acc) rfl (HR.out.1.alloc _) ⟨wr.heap.size, 0, none⟩ 1 1 [226] rfl rfl ?c1 ?s1 ?b1 ?_)
            case c1 => intro j hj; exact new1 wr _ j hj
            case s1 => have := HR.out.2.1; simp; omega
            case b1 => simp; omega
            · intro v1 w1 ho1 hb1
              have hbb : Below B w w1 := (HR.out.2.2.2.alloc hBr _).trans hb1
              clear hb1
              go_wp2_with fail
              go_roundg (n - (i + 1))
              case measure => omega
              case rel =>
                refine ⟨i + 1, acc ++ [226], rfl, by omega, by go_num, ?_, ?_, HI.out, hbb⟩
                · simpa using ho1
                · have := HR.out.2.1; simp; omega
          · have HP : Hid (esc z n i = z i :: esc z n (i + 1)) := esc_plain z n i hlt (by have := HC.out; omega) (by have := HC.out; omega) (by have := HC.out; omega) (fun e => by have := HC1.out; omega)
            have e128 : (c1 == 128) = false := by simpa using hs2
            have HI : Hid (acc ++ [226] ++ esc z n (i + 1) = esc z n 0) := by
              have h1 := HR.out.2.2.1
              rw [HP.out] at h1
              rw [Hid, ← h1, HC.out]
              simp
            go_wp2_with (at_builtin; refine ap_slice rfl (.tmp 114) (.tmp 116) rfl B u5 (y ++ acc) rfl (HR.out.1.alloc _) ⟨wr.heap.size, 0, none⟩ 1 1 [226] rfl rfl ?c2 ?s2 ?b2 ?_)
            case c2 => intro j hj; exact new1 wr _ j hj
            case s2 => have := HR.out.2.1; simp; omega
            case b2 => simp; omega
            · intro v1 w1 ho1 hb1
              have hbb : Below B w w1 := (HR.out.2.2.2.alloc hBr _).trans hb1
              clear hb1
              go_wp2_with fail
              go_roundg (n - (i + 1))
              case measure => omega
              case rel =>
                refine ⟨i + 1, acc ++ [226], rfl, by omega, by go_num, ?_, ?_, HI.out, hbb⟩
                · simpa using ho1
                · have := HR.out.2.1; simp; omega
        · have HP : Hid (esc z n i = z i :: esc z n (i + 1)) := esc_plain z n i hlt (by have := HC.out; omega) (by have := HC.out; omega) (by have := HC.out; omega) (fun e => by omega)
          have HI : Hid (acc ++ [226] ++ esc z n (i + 1) = esc z n 0) := by
            have h1 := HR.out.2.2.1
            rw [HP.out] at h1
            rw [Hid, ← h1, HC.out]
            simp
          go_wp2_with (at_builtin; refine ap_slice rfl (.tmp 114) (.tmp 116) rfl B u5 (y ++ acc) rfl (HR.out.1.alloc _) ⟨wr.heap.size, 0, none⟩ 1 1 [226] rfl rfl ?c3 ?s3 ?b3 ?_)
          case s3 => have := HR.out.2.1; omega
          case b3 => omega
          · intro v1 w1 ho1 hb1
            have hbb : Below B w w1 := (HR.out.2.2.2.alloc hBr _).trans hb1
            clear hb1
            go_wp2_with fail
            go_roundg (n - (i + 1))
            case measure => omega
            case rel =>
              refine ⟨i + 1, acc ++ [226], rfl, by omega, by go_num, ?_, ?_, HI.out, hbb⟩
              · simpa using ho1
              · have := HR.out.2.1; simp; omega
      · have HP : Hid (esc z n i = z i :: esc z n (i + 1)) := esc_plain z n i hlt (by have := HC.out; omega) (by have := HC.out; omega) (by have := HC.out; omega) (fun e => by have := HC.out; omega)
        have e60 : (c == 60) = false := by simpa using h60
        have e62 : (c == 62) = false := by simpa using h62
        have e38 : (c == 38) = false := by simpa using h38
        have e226 : (c == 226) = false := by simpa using hs0
        have HI : Hid (acc ++ [c] ++ esc z n (i + 1) = esc z n 0) := by
          have h1 := HR.out.2.2.1
          rw [HP.out] at h1
          rw [Hid, ← h1, HC.out]
          simp
        go_wp2_with (at_builtin; refine ap_slice rfl (.tmp 114) (.tmp 116) rfl B u5 (y ++ acc) rfl (HR.out.1.alloc _) ⟨wr.heap.size, 0, none⟩ 1 1 [c] rfl rfl ?c4 ?s4 ?b4 ?_)
        case c4 => intro j hj; exact new1 wr _ j hj
        case s4 => have := HR.out.2.1; simp; omega
        case b4 => simp; omega
        · intro v1 w1 ho1 hb1
          have hbb : Below B w w1 := (HR.out.2.2.2.alloc hBr _).trans hb1
          clear hb1
          go_wp2_with fail
          go_roundg (n - (i + 1))
          case measure => omega
          case rel =>
            refine ⟨i + 1, acc ++ [c], rfl, by omega, by go_num, ?_, ?_, HI.out, hbb⟩
            · simpa using ho1
            · have := HR.out.2.1; simp; omega
    · have hin : i = n := by omega
      subst hin
      have HEND : Hid (acc = esc z i 0) := by have := HR.out.2.2.1; rwa [esc_end z i i (Nat.le_refl _), List.append_nil] at this
      go_wp2_with fail
      go_ret
      have h1 := HR.out.1
      have h2 := HR.out.2.2.2
      rw [HBW.out, HEND.out] at h1
      rw [HBW.out] at h2
      exact ⟨_, rfl, h1, h2⟩
end Go.Proofs.Ybulkagca
