/- 'LawS1599APieces' (function 4): the walk. -/
import Derived.Test.YbulkagcaRawG
import Derived.Test.YbulkagcaPieceG
namespace Go.Proofs.Ybulkagca.G
open Go.RowKit
namespace P

theorem far0 (a0 : ByteArray) (a1 : Option Addr) (len1 cap1 : Nat) (w : World) (h : 1024 < a0.size) :
    Calls Yba.prog 4 #[.string a0, .slice a1 len1 cap1] w fun e w' => e = .returned (.bool true) ∧ Below w.heap.size w w' := by
  go_enter Yba.func4, Yba.ntmps4
  go_wp2
  go_ret
  exact ⟨rfl, Below.refl _ _⟩
theorem far1 (a0 : ByteArray) (a1 : Option Addr) (len1 cap1 : Nat) (w : World) (h0 : ¬ 1024 < a0.size) (h : 1024 < len1) :
    Calls Yba.prog 4 #[.string a0, .slice a1 len1 cap1] w fun e w' => e = .returned (.bool true) ∧ Below w.heap.size w w' := by
  go_enter Yba.func4, Yba.ntmps4
  go_wp2
  go_ret
  exact ⟨rfl, Below.refl _ _⟩

/-- What the loop keeps: v's row (block gv) holds the pieces, want's row (block gw) the prefix and the escaped pieces. -/
def St (w : World) (B gv gw : Nat) (pre : ByteArray) (p : Nat → Nat) (n i nv nw : Nat) (wr : World) : Prop :=
  nv = (pieces (ks p i)).length ∧ nw = pre.size + (escds (ks p i)).length ∧ Own wr B (.slice (some ⟨gv, 0, none⟩) nv (3 * n)) (pieces (ks p i)) ∧
  Own wr B (.slice (some ⟨gw, 0, none⟩) nw (pre.size + 6 * n + 4)) (bytesI pre ++ escds (ks p i)) ∧ Below B w wr ∧ gv < wr.heap.size ∧ gw < wr.heap.size

/-- What Raw appends for the pieces k. -/
def rawText (k : List Nat) : List Int := if k = [] then [110, 117, 108, 108] else escds k
theorem rawText_nil {k : List Nat} (h : k = []) : rawText k = [110, 117, 108, 108] := if_pos h
theorem rawText_cons {k : List Nat} (h : k ≠ []) : rawText k = escds k := if_neg h

/-- Raw of the pieces, onto what '[]byte(pre)' has laid. -/
theorem rawAt (w7 wc : World) (B g nv capv : Nat) (k : List Nat) (pre : ByteArray) (vc : Value) (hv : Own w7 B (.slice (some ⟨g, 0, none⟩) nv capv) (pieces k)) (hnv : nv = (pieces k).length) (hk : k.length ≤ 1024) (hpre : pre.size ≤ 1024)
    (ho : Own wc w7.heap.size vc (bytesI pre)) (hb : Below w7.heap.size w7 wc) :
    Calls Yba.prog 5 #[vc, .slice (some ⟨g, 0, none⟩) nv capv] wc fun e w' => ∃ v', e = .returned v' ∧ Own w' w7.heap.size v' (bytesI pre ++ rawText k) ∧ Below w7.heap.size wc w' := by
  have hlen := length_bytesI pre
  by_cases hk0 : k = []
  · subst hk0
    obtain rfl : nv = 0 := by rw [hnv]; rfl
    rw [rawText_nil rfl]
    exact raw0 wc w7.heap.size vc (bytesI pre) (some ⟨g, 0, none⟩) capv ho (by omega) hb.size
  · have hl := length_pieces k
    have hkp : 0 < k.length := List.length_pos_iff.2 hk0
    rw [rawText_cons hk0, ← esc_pieces (fun j => (pieces k).getD j 0) nv k 0 (by omega) (fun j _ => by rw [Nat.zero_add])]
    have hlt : g < w7.heap.size := (hv.lt g rfl).2
    have hcap : nv ≤ capv ∧ capv ≤ maxLen := by
      obtain ⟨g', cap', cur, fz, e, _, _, _, h1, h2, _⟩ := hv
      cases e
      exact ⟨h1, h2⟩
    have hcm := hcap.2
    unfold maxLen at hcm
    refine rawN wc w7.heap.size vc (bytesI pre) g 0 nv capv (fun j => (pieces k).getD j 0) ho (by omega) hb.size (by omega) (by omega) hcap.1 (by omega) hlt ?_ (fun i => range_pieces k i)
    intro i hi
    have hc := hv.cells i (.int .u8 ((pieces k).getD i 0)) (by simp [List.getD, show i < (pieces k).length by omega])
    rw [Addr.add_lit] at hc
    exact (hb.cell (p := ⟨g, 0 + i, none⟩) hlt).trans hc

set_option maxHeartbeats 3200000 in
set_option maxRecDepth 100000 in
theorem near (w : World) (pre : ByteArray) (a1 : Option Addr) (n cap : Nat) (p : Nat → Nat) (h0 : ¬ 1024 < pre.size) (h1 : ¬ 1024 < n) (hp : ∀ i, p i < 256)
    (hz : ∀ i, i < n → ∃ b o, a1 = some ⟨b, o, none⟩ ∧ b < w.heap.size ∧ w.cell? ⟨b, o + i, none⟩ = some (.int .u8 ((p i : Nat) : Int))) :
    Calls Yba.prog 4 #[.string pre, .slice a1 n cap] w fun e w' => e = .returned (.bool true) ∧ Below w.heap.size w w' := by
  obtain ⟨i0, hi0, hz0, hz1, hz2⟩ := info_parts info5
  have HC : Hid (∀ i, i < n → ∃ b o, a1 = some ⟨b, o, none⟩ ∧ b < w.heap.size ∧ w.cell? ⟨b, o + i, none⟩ = some (.int .u8 ((p i : Nat) : Int))) := hz
  have HP : Hid (∀ i, p i < 256) := hp
  clear hz hp
  go_enter Yba.func4, Yba.ntmps4
  go_wp2_with (at_make; refine wpList_make_own _ rfl _ _ 22 rfl w.heap.size 5 i0 (.int .u8 0) 1 Yba.underlying22 hi0 hz0 hz1 _ _ _ (3 * n) rfl rfl (by omega) ?m1 ?m2 ?m3 ?_)
  case m1 => rw [hz2]; omega
  case m2 => unfold maxLen; omega
  case m3 => exact Nat.le_refl _
  intro w1 ho1 hg1
  obtain ⟨B, hBw⟩ : ∃ B, B = w.heap.size := ⟨_, rfl⟩
  have HO1 : Hid (Own w1 B (.slice (some ⟨B, 0, none⟩) 0 (3 * n)) []) := by rw [hBw]; exact own_some ho1
  have HB1 : Hid (Below B w w1) := by rw [hBw]; exact (Below.refl _ _).grown hg1 (Nat.le_refl _) (fun k hk => by cases hk)
  have HV1 : Hid (B < w1.heap.size) := (HO1.out.lt B rfl).2
  have HBW : Hid (B = w.heap.size) := hBw
  have hs1 : B ≤ w1.heap.size := Nat.le_of_lt HV1.out
  clear ho1 hg1
  rw [← hBw]
  clear hBw
  go_wp2_with (at_make; refine wpList_make_own _ rfl _ _ 22 rfl B 5 i0 (.int .u8 0) 1 Yba.underlying22 hi0 hz0 hz1 _ _ _ (pre.size + 6 * n + 4) rfl rfl (by omega) ?m4 ?m5 ?m6 ?_)
  case m4 => rw [hz2]; omega
  case m5 => unfold maxLen; omega
  case m6 => exact hs1
  intro w2 ho2 hg2
  obtain ⟨gw, hgw⟩ : ∃ gw, gw = w1.heap.size := ⟨_, rfl⟩
  have HO2 : Hid (Own w2 B (.slice (some ⟨gw, 0, none⟩) 0 (pre.size + 6 * n + 4)) []) := by rw [hgw]; exact own_some ho2
  have HO1' : Hid (Own w2 B (.slice (some ⟨B, 0, none⟩) 0 (3 * n)) []) := HO1.out.kept (C := w1.heap.size) ((Below.refl _ _).grown hg2 (Nat.le_refl _) (fun k hk => by cases hk)) (fun k hk => (HO1.out.lt k hk).2)
  have HB2 : Hid (Below B w w2) := HB1.out.trans ((Below.refl _ _).grown hg2 hs1 (fun k hk => by cases hk))
  have HV2 : Hid (gw < w2.heap.size) := (HO2.out.lt gw rfl).2
  have HGW : Hid (B < gw) := by rw [hgw]; exact HV1.out
  clear ho2 hg2 HO1 HB1 HV1
  rw [← hgw]
  clear hgw hs1
  go_wp2_with (at_builtin; refine ap_room rfl (.tmp 31) (.tmp 32) rfl B gw 0 (pre.size + 6 * n + 4) [] rfl rfl HO2.out pre rfl (by omega) ?_)
  intro w3 ho3 hs3 hk3 hb3
  have HST : Hid (St w B B gw pre p n 0 0 pre.size w3) := by
    refine ⟨rfl, by simp [ks, escds], ?_, by simpa [ks, escds] using ho3, HB2.out.trans hb3, ?_, by rw [hs3]; exact HV2.out⟩
    · exact HO1'.out.beside (by have := HGW.out; omega) hk3
    · rw [hs3]; have := HGW.out; have := HV2.out; omega
  clear ho3 hs3 hk3 hb3 HO1' HO2 HB2 HV2
  go_wp2_with fail
  go_loopg [5, 6, 36] n (fun g u5 u6 u36 wr => ∃ (i nv nw : Nat), g = n - i ∧ i ≤ n ∧ u5 = .slice (some ⟨B, 0, none⟩) nv (3 * n) ∧ u6 = .slice (some ⟨gw, 0, none⟩) nw (pre.size + 6 * n + 4) ∧ u36 = .int .i64 i ∧ Hid (St w B B gw pre p n i nv nw wr))
  case atStart => exact ⟨0, 0, pre.size, rfl, Nat.zero_le _, rfl, rfl, rfl, HST.out⟩
  case round =>
    obtain ⟨i, nv, nw, rfl, hi, rfl, rfl, rfl, HR⟩ := hrel
    by_cases hlt : i < n
    · obtain ⟨b, o, rfl, hbw, hcw⟩ := HC.out i hlt
      obtain ⟨c, hc⟩ : ∃ c, c = p i := ⟨_, rfl⟩
      have hcl : c < 256 := by rw [hc]; exact HP.out i
      have hk : wr.cell? ⟨b, o + i, none⟩ = some (.int .u8 (c : Int)) := by rw [hc]; exact (HR.out.2.2.2.2.1.cell (p := ⟨b, o + i, none⟩) (by rw [HBW.out]; exact hbw)).trans hcw
      have HCP : Hid (c = p i) := hc
      have hrem : Int.tmod (c : Int) 10 = ((c % 10 : Nat) : Int) := by rw [Int.tmod_eq_emod_of_nonneg (by omega)]; omega
      have HLN : Hid (nv = (pieces (ks p i)).length ∧ nv ≤ 3 * i) := ⟨HR.out.1, by have := HR.out.1; have := length_pieces (ks p i); rw [length_ks] at this; omega⟩
      have HLW : Hid (nw = pre.size + (escds (ks p i)).length ∧ nw ≤ pre.size + 6 * i) := ⟨HR.out.2.1, by have := HR.out.2.1; have := length_escds (ks p i); rw [length_ks] at this; omega⟩
      clear hc hcw
      go_wp2_with (go_at_call 9; refine (piece_at wr (c % 10) (by omega)).mono ?_)
      rintro e w1 ⟨t, rfl, ht, rfl⟩
      have HT : Hid (bytesI t = piece (c % 10)) := ht
      have htl : t.size ≤ 3 := by rw [← length_bytesI, HT.out]; exact (length_piece _).2
      clear ht
      go_wp2_with (at_builtin; refine ap_room rfl (.tmp 43) (.tmp 45) rfl B B nv (3 * n) (pieces (ks p i)) HLN.out.1.symm rfl HR.out.2.2.1 t rfl ?r1 ?_)
      case r1 => have := HLN.out.2; omega
      intro w4 ho4 hs4 hk4 hb4
      have HO4 : Hid (Own w4 B (.slice (some ⟨B, 0, none⟩) (nv + t.size) (3 * n)) (pieces (ks p i) ++ bytesI t)) := ho4
      have HW4 : Hid (Own w4 B (.slice (some ⟨gw, 0, none⟩) nw (pre.size + 6 * n + 4)) (bytesI pre ++ escds (ks p i))) := HR.out.2.2.2.1.beside (by have := HGW.out; omega) hk4
      have HB4 : Hid (Below B w w4) := HR.out.2.2.2.2.1.trans hb4
      have HS4 : Hid (w4.heap.size = w1.heap.size) := hs4
      clear ho4 hs4 hk4 hb4
      go_wp2_with (go_at_call 10; refine (escd_at w4 (c % 10) (by omega)).mono ?_)
      rintro e w5 ⟨t2, rfl, ht, rfl⟩
      have HT2 : Hid (bytesI t2 = escd (c % 10)) := ht
      have htl2 : t2.size ≤ 6 := by rw [← length_bytesI, HT2.out]; exact length_escd _
      clear ht
      go_wp2_with (at_builtin; refine ap_room rfl (.tmp 47) (.tmp 49) rfl B gw nw (pre.size + 6 * n + 4) (bytesI pre ++ escds (ks p i)) ?r2 rfl HW4.out t2 rfl ?r3 ?_)
      case r2 => rw [List.length_append, length_bytesI]; exact HLW.out.1.symm
      case r3 => have := HLW.out.2; omega
      intro w6 ho6 hs6 hk6 hb6
      have HST' : Hid (St w B B gw pre p n (i + 1) (nv + t.size) (nw + t2.size) w6) := by
        have e1 : pieces (ks p (i + 1)) = pieces (ks p i) ++ bytesI t := by rw [ks_succ, pieces_snoc, HT.out, HCP.out]
        have e2 : escds (ks p (i + 1)) = escds (ks p i) ++ bytesI t2 := by rw [ks_succ, escds_snoc, HT2.out, HCP.out]
        refine ⟨?_, ?_, ?_, ?_, HB4.out.trans hb6, ?_, ?_⟩
        · rw [e1, List.length_append, length_bytesI, ← HLN.out.1]
        · rw [e2, List.length_append, length_bytesI]; have := HLW.out.1; omega
        · rw [e1]; exact HO4.out.beside (by have := HGW.out; omega) hk6
        · rw [e2]; simpa using ho6
        · rw [hs6, HS4.out]; exact HR.out.2.2.2.2.2.1
        · rw [hs6, HS4.out]; exact HR.out.2.2.2.2.2.2
      clear ho6 hs6 hk6 hb6
      go_wp2_with fail
      go_roundg (n - (i + 1))
      case measure => omega
      case rel => exact ⟨i + 1, nv + t.size, nw + t2.size, rfl, by omega, rfl, rfl, by go_num, HST'.out⟩
    · have hin : i = n := by omega
      subst hin
      have hcv := fun ww : World => run_bytes_of_string (P := Yba.prog) ww 9 22 5 pre Yba.underlying9 Yba.underlying22 Yba.underlying5
      have HNV : Hid (nv = (pieces (ks p i)).length) := HR.out.1
      by_cases hn0 : i = 0
      · have HK : Hid (ks p i = []) := by rw [hn0]; rfl
        have hnv : nv = 0 := by rw [HNV.out, HK.out]; rfl
        have hb0 : ((nv : Int) == 0) = true := by rw [hnv]; rfl
        have HI0 : Hid (i = 0) := hn0
        have HNV0 : Hid (nv = 0) := hnv
        have HW6 : Hid (Own wr B (.slice (some ⟨gw, 0, none⟩) nw (pre.size + 6 * i + 4)) (bytesI pre)) := by unfold Hid; have := HR.out.2.2.2.1; rw [HK.out] at this; simpa [escds] using this
        have HNW : Hid (nw = pre.size) := by unfold Hid; have := HR.out.2.1; rw [HK.out] at this; simpa [escds] using this
        clear hn0 hnv
        go_wp2_with (at_builtin; refine ap_room rfl (.tmp 55) _ rfl B gw nw (pre.size + 6 * i + 4) (bytesI pre) ?r5 rfl HW6.out ⟨#[110, 117, 108, 108]⟩ rfl ?r6 ?_)
        case r5 => rw [length_bytesI]; exact HNW.out.symm
        case r6 => have := HNW.out; show nw + 4 ≤ _; omega
        intro w7 ho7 hs7 hk7 hb7
        have HW7 : Hid (Own w7 B (.slice (some ⟨gw, 0, none⟩) (nw + 4) (pre.size + 6 * i + 4)) (bytesI pre ++ [110, 117, 108, 108])) := ho7
        have HV7 : Hid (Own w7 B (.slice (some ⟨B, 0, none⟩) nv (3 * i)) (pieces (ks p i))) := HR.out.2.2.1.beside (by have := HGW.out; omega) hk7
        have HB7 : Hid (Below B w w7) := HR.out.2.2.2.2.1.trans hb7
        clear ho7 hs7 hk7 hb7
        go_wp2_with (go_at_call 5; refine (rawAt w7 _ B B nv (3 * i) (ks p i) pre _ HV7.out HNV.out (by rw [length_ks]; omega) (by omega) (own_bytes w7 pre (by omega)) ((Below.refl _ _).drew.alloc (Nat.le_refl _) _)).mono ?_)
        rintro e wf ⟨v', rfl, hof, hbf⟩
        have HBF : Hid (Below w7.heap.size w7 wf) := Below.trans ((Below.refl _ _).drew.alloc (Nat.le_refl _) _) hbf
        have HOF : Hid (Own wf w7.heap.size v' (bytesI pre ++ [110, 117, 108, 108])) := by unfold Hid; rwa [rawText_nil HK.out] at hof
        have HWF : Hid (Own wf B (.slice (some ⟨gw, 0, none⟩) (nw + 4) (pre.size + 6 * i + 4)) (bytesI pre ++ [110, 117, 108, 108])) := HW7.out.kept HBF.out (fun k hk => (HW7.out.lt k hk).2)
        have HBZ : Hid (Below w.heap.size w wf) := by rw [← HBW.out]; exact HB7.out.trans (HBF.out.mono (Nat.le_trans (by rw [HBW.out]; exact Nat.le_refl _) HB7.out.size))
        clear hof hbf hcv
        go_wp2_with (go_at_call 8; refine (equal_same wf w7.heap.size B v' _ (bytesI pre ++ [110, 117, 108, 108]) HOF.out HWF.out).mono ?_)
        rintro e w9 ⟨rfl, rfl⟩
        go_wp2_with fail
        go_ret
        exact ⟨rfl, HBZ.out⟩
      · have HK : Hid (ks p i ≠ []) := by intro h; have := length_ks p i; rw [h] at this; simp at this; omega
        have hb0 : ((nv : Int) == 0) = false := by
          have h1 := HNV.out
          have h2 := (length_pieces (ks p i)).1
          rw [length_ks] at h2
          simp
          omega
        have HI0 : Hid (i ≠ 0) := hn0
        obtain ⟨w7, hw7⟩ : ∃ w7, w7 = wr := ⟨_, rfl⟩
        rw [← hw7] at HR ⊢
        have HW7 : Hid (Own w7 B (.slice (some ⟨gw, 0, none⟩) nw (pre.size + 6 * i + 4)) (bytesI pre ++ escds (ks p i))) := HR.out.2.2.2.1
        have HV7 : Hid (Own w7 B (.slice (some ⟨B, 0, none⟩) nv (3 * i)) (pieces (ks p i))) := HR.out.2.2.1
        have HB7 : Hid (Below B w w7) := HR.out.2.2.2.2.1
        clear hn0 hw7
        go_wp2_with (go_at_call 5; refine (rawAt w7 _ B B nv (3 * i) (ks p i) pre _ HV7.out HNV.out (by rw [length_ks]; omega) (by omega) (own_bytes w7 pre (by omega)) ((Below.refl _ _).drew.alloc (Nat.le_refl _) _)).mono ?_)
        rintro e wf ⟨v', rfl, hof, hbf⟩
        have HBF : Hid (Below w7.heap.size w7 wf) := Below.trans ((Below.refl _ _).drew.alloc (Nat.le_refl _) _) hbf
        have HOF : Hid (Own wf w7.heap.size v' (bytesI pre ++ escds (ks p i))) := by unfold Hid; rwa [rawText_cons HK.out] at hof
        have HWF : Hid (Own wf B (.slice (some ⟨gw, 0, none⟩) nw (pre.size + 6 * i + 4)) (bytesI pre ++ escds (ks p i))) := HW7.out.kept HBF.out (fun k hk => (HW7.out.lt k hk).2)
        have HBZ : Hid (Below w.heap.size w wf) := by rw [← HBW.out]; exact HB7.out.trans (HBF.out.mono (Nat.le_trans (by rw [HBW.out]; exact Nat.le_refl _) HB7.out.size))
        clear hof hbf hcv
        go_wp2_with (go_at_call 8; refine (equal_same wf w7.heap.size B v' _ (bytesI pre ++ escds (ks p i)) HOF.out HWF.out).mono ?_)
        rintro e w9 ⟨rfl, rfl⟩
        go_wp2_with fail
        go_ret
        exact ⟨rfl, HBZ.out⟩
end P
end Go.Proofs.Ybulkagca.G
