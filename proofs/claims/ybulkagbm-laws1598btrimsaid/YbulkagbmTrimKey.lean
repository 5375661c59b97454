/- THE CONTRACT OF 'zzs1598bkey' (function 11): the key is the tag, the decimal digits of i, a colon and some x; and the plain law: tag and number can be read off it. -/
import Derived.Test.YbulkagbmRows
import Derived.Test.YbulkagbmHalve
import Derived.WalkKit
import Derived.WalkLawsBesides
import Derived.Laws.BytesString
import Derived.Maps.AppendAt
import Derived.Lib.SmallJoins
namespace Go.Proofs.Ybulkagbm
open Go.RowKit
namespace Trim

theorem info5 : (Yba.prog.info? 5).map (fun i => (i.zero, i.size, i.bytes)) = some (some (.int .u8 0), 1, 1) := by kernel_rfl

/-- The last j decimal digits of i, as bytes. -/
def tl (i : Nat) : Nat → List Int
  | 0 => []
  | j + 1 => ((48 + i / 10 ^ j % 10 : Nat) : Int) :: tl i j
theorem length_tl (i j : Nat) : (tl i j).length = j := by
  induction j with
  | zero => rfl
  | succ j ih => simp [tl, ih]
/-- The array of digits after j rounds. -/
def dA (i j : Nat) : Array Value := ((List.replicate (20 - j) (0 : Int) ++ tl i j).map (Value.int .u8)).toArray
theorem dA_succ (i j : Nat) (hj : j < 20) : (dA i j).setIfInBounds (19 - j) (.int .u8 ((48 + i / 10 ^ j % 10 : Nat) : Int)) = dA i (j + 1) := by
  unfold dA
  rw [show 20 - j = (19 - j) + 1 by omega, List.replicate_succ', List.append_assoc]
  simp only [List.map_append, List.map_replicate, List.setIfInBounds_toArray]
  rw [List.set_append_right _ _ (by simp)]
  simp [tl, show 20 - (j + 1) = 19 - j by omega]

theorem dA_get (i j : Nat) (hj : j ≤ 3) : (dA i j)[20 - j - 1]? = some (.int .u8 0) := by
  unfold dA
  simp [List.getElem?_append, show 20 - j - 1 < 20 - j by omega]
theorem len66 : Yba.prog.arrayLen 66 = 20 := by kernel_rfl
theorem size66 (w : World) : (sizeOf (Yba.prog.elem 66)).run Yba.prog w = .ok 1 w := by kernel_rfl
theorem slice66 (b j : Nat) (hj : j ≤ 3) (w : World) : (Instr.sliceAt 66 (.pointer (some ⟨b, 0, none⟩)) (some (.int .i64 (20 - (j : Int) - 1))) none none).run Yba.prog w = .ok (.slice (some ⟨b, 19 - j, none⟩) (j + 1) (j + 1)) w := by
  rw [run_sliceAt_array_l (P := Yba.prog) w 66 ⟨b, 0, none⟩ (by kernel_rfl) .i64 (20 - (j : Int) - 1) (by omega) (by rw [len66]; omega), len66, size66]
  have e3 : (20 - (j : Int) - 1).toNat = 19 - j := by omega
  have e4 : 20 - (19 - j) = j + 1 := by omega
  simp [Result.andThen, slicedAt, e3, e4, Addr.add_lit, show ¬ 20 = 19 - j by omega]
theorem dA_cells (i j t : Nat) (u : Value) (hu : ((tl i j).map (Value.int .u8))[t]? = some u) : (dA i j)[20 - j + t]? = some u := by
  unfold dA
  rw [List.map_append]
  simp only [List.getElem?_toArray]
  rw [List.getElem?_append_right (by simp)]
  simpa using hu

/-- The key's bytes: the tag, nd digits of i, a colon, q times an x. -/
def keyL (tag i nd q : Nat) : List Int := (tag : Int) :: (tl i nd ++ (58 :: List.replicate q (120 : Int)))
theorem length_keyL (tag i nd q : Nat) : (keyL tag i nd q).length = 1 + nd + 1 + q := by simp [keyL, length_tl]; omega
theorem keyL_succ (tag i nd q : Nat) : (keyL tag i nd q).map (Value.int .u8) ++ [.int .u8 120] = (keyL tag i nd (q + 1)).map (Value.int .u8) := by
  simp [keyL, List.replicate_succ']
def bytesOf (l : List Int) : ByteArray := l.foldl (fun r n => r.push (UInt8.ofNat n.toNat)) ByteArray.empty
/-- How many digits: the loop of 'zzs1598bkey'. -/
def nd (i : Nat) : Nat := if i < 10 then 1 else if i < 100 then 2 else if i < 1000 then 3 else 4
def keyB (tag i pad : Nat) : ByteArray := bytesOf (keyL tag i (nd i) (pad % 8))

theorem nd_of (i j m : Nat) (hi : i ≤ 1024) (hj : j ≤ 3) (h : m = i / 10 ^ j ∧ (j = 0 ∨ 0 < m)) (hz : m / 10 = 0) : nd i = j + 1 := by
  obtain ⟨rfl, h2⟩ := h
  unfold nd
  match j, hj with
  | 0, _ => simp at *; repeat (first | omega | split)
  | 1, _ => simp at *; repeat (first | omega | split)
  | 2, _ => simp at *; repeat (first | omega | split)
  | 3, _ => simp at *; repeat (first | omega | split)
theorem digits_more (i j m : Nat) (hi : i ≤ 1024) (hj : j ≤ 3) (h : m = i / 10 ^ j ∧ (j = 0 ∨ 0 < m)) (hz : ¬ m / 10 = 0) : j < 3 := by
  obtain ⟨rfl, h2⟩ := h
  match j, hj with
  | 0, _ => omega
  | 1, _ => omega
  | 2, _ => omega
  | 3, _ => simp at *; omega

theorem conv_own (w : World) (base g n cap : Nat) (l : List Int) (hn : l.length = n) (h : w.ownsRow base 5 1 (.slice (some ⟨g, 0, none⟩) n cap) n (l.map (Value.int .u8))) :
    (convert 33 9 (.slice (some ⟨g, 0, none⟩) n cap)).run Yba.prog w = .ok (.string (bytesOf l)) w := by
  rw [run_convert_bytes_string w 33 9 5 _ _ _ Yba.underlying33 Yba.underlying5 Yba.underlying9]
  refine run_bytesToString w ⟨g, 0, none⟩ n cap l ?_
  have := run_loadCells_list (P := Yba.prog) w ⟨g, 0, none⟩ (l.map (Value.int .u8)) (h.cells rfl)
  rwa [List.length_map, hn] at this

set_option maxHeartbeats 800000 in
theorem key (tag i pad : Nat) (w : World) (hi : i ≤ 1024) (hp : pad < 256) :
    Calls Yba.prog 11 #[.int .u8 tag, .int .i64 i, .int .u8 pad] w fun e w' => e = .returned (.string (keyB tag i pad)) ∧ Below w.heap.size w w' := by
  obtain ⟨i0, hi0, hz0, hz1, hz2⟩ := info_parts info5
  go_enter Yba.func11, Yba.ntmps11
  go_wp2_with fail
  go_loopw [9, 10] (fun kk nn wr => ∃ j m : Nat, j ≤ 3 ∧ kk = .int .i64 (20 - j) ∧ nn = .int .i64 m ∧ m ≤ 1024 ∧ Hid (m = i / 10 ^ j ∧ (j = 0 ∨ 0 < m)) ∧ wr = (w.alloc (.cells #[.int .u8 tag] 5)).alloc (.cells (dA i j) 66)) (fun kk _ _ => (intOf kk).toNat)
  case atStart => exact ⟨0, i, by omega, rfl, rfl, hi, by simp [Hid], rfl⟩
  case round =>
    obtain ⟨j, m, hj, rfl, rfl, hm, HM, rfl⟩ := hrel
    have hsl := fun b => slice66 b j hj
    have hd : (dA i j)[20 - j - 1]? = some (.int .u8 0) := dA_get i j hj
    have HA : Hid ((dA i j).setIfInBounds (20 - j - 1) (.int .u8 (48 + (m : Int) % 10)) = dA i (j + 1)) := by
      have := dA_succ i j (by omega)
      rw [← HM.out.1] at this
      rw [show 20 - j - 1 = 19 - j by omega]
      exact this
    by_cases hmz : m / 10 = 0
    · have HND : Hid (nd i = j + 1) := nd_of i j m hi hj HM.out hmz
      go_wp2_with (at_builtin; refine wpList_append_own _ rfl (.tmp 27) (.tmp 29) 33 rfl w.heap.size 5 i0 (.int .u8 0) 1 1 Yba.underlying33 hi0 hz0 hz1 hz2 rfl (by decide) _ 1 [.int .u8 tag] rfl ?own ⟨w.heap.size + 1, 19 - j, none⟩ (j + 1) (j + 1) ((tl i (j + 1)).map (Value.int .u8)) rfl ?len ?cells ?one ?max ?bytes ?base ?_)
      case own => exact ⟨rfl, .inr ⟨w.heap.size, 1, #[.int .u8 tag], rfl, Nat.le_refl _, (heap_old _ _ _ (by simp)).trans (heap_new _ _ _ rfl), by omega, by unfold maxLen; omega, rfl, rfl⟩⟩
      case len => simp [length_tl]
      case cells =>
        intro t u hu
        rw [Addr.add_lit, HA.out, cell_block (heap_new _ _ _ (by simp)) _]
        have := dA_cells i (j + 1) t u hu
        rwa [show 20 - (j + 1) + t = 19 - j + t by omega] at this
      case one => exact ints_oneCell _ _
      case max => unfold maxLen; omega
      case bytes => omega
      case base => simp; omega
      · intro v1 w1 hown1 hgrow1 _
        have hB1 : Below w.heap.size w w1 := (((Below.refl _ _).alloc (Nat.le_refl _) _).alloc (by simp) _).grown hgrow1 (by simp; omega) (by intro k hk; simp [Value.ownBlock] at hk; omega)
        have hs1 : w.heap.size ≤ w1.heap.size := hB1.size
        go_wp2_with (at_builtin; refine wpList_append_own _ rfl (.tmp 31) (.tmp 32) 33 rfl w.heap.size 5 i0 (.int .u8 0) 1 1 Yba.underlying33 hi0 hz0 hz1 hz2 rfl (by decide) v1 (1 + (j + 1)) _ rfl (hown1.alloc _) ⟨w1.heap.size, 0, none⟩ 1 1 [.int .u8 58] rfl rfl ?cells2 ?one2 ?max2 ?bytes2 ?base2 ?_)
        case cells2 => exact cell_one_new _ _ _
        case one2 => intro u hu; simp at hu; subst hu; rfl
        case max2 => unfold maxLen; omega
        case bytes2 => omega
        case base2 => simp; omega
        · intro v2 w2 hown2 hgrow2 _
          have hB2 : Below w.heap.size w w2 := (hB1.alloc hs1 _).grown hgrow2 (by simp; omega) (fun k hk => (hown1.lt k hk).1)
          have HO : Hid (w2.ownsRow w.heap.size 5 1 v2 (1 + (j + 1) + 1) ((keyL tag i (j + 1) 0).map (Value.int .u8))) := by
            have : (keyL tag i (j + 1) 0).map (Value.int .u8) = [Value.int .u8 tag] ++ (tl i (j + 1)).map (Value.int .u8) ++ [.int .u8 58] := by simp [keyL]
            rw [this]; exact hown2
          clear hown1 hown2 hgrow1 hgrow2 hB1 hs1 hsl hd
          go_wp2_with fail
          go_loopw [7, 11] (fun v jj wr => ∃ q : Nat, q ≤ pad % 8 ∧ jj = .int .i64 q ∧ Hid (wr.ownsRow w.heap.size 5 1 v (1 + (j + 1) + 1 + q) ((keyL tag i (j + 1) q).map (Value.int .u8))) ∧ Below w.heap.size w wr) (fun _ jj _ => pad % 8 - (intOf jj).toNat)
          case atStart => exact ⟨0, by omega, rfl, HO, hB2⟩
          case round =>
            obtain ⟨q, hq, rfl, HOr, hBr⟩ := hrel
            clear HO hB2
            have hsr : w.heap.size ≤ wr.heap.size := hBr.size
            by_cases hlt : q < pad % 8
            · go_wp2_with (at_builtin; refine wpList_append_own _ rfl (.tmp 41) (.tmp 42) 33 rfl w.heap.size 5 i0 (.int .u8 0) 1 1 Yba.underlying33 hi0 hz0 hz1 hz2 rfl (by decide) _ (1 + (j + 1) + 1 + q) _ rfl (HOr.out.alloc _) ⟨wr.heap.size, 0, none⟩ 1 1 [.int .u8 120] rfl rfl ?cells3 ?one3 ?max3 ?bytes3 ?base3 ?_)
              case cells3 => exact cell_one_new _ _ _
              case one3 => intro u hu; simp at hu; subst hu; rfl
              case max3 => unfold maxLen; omega
              case bytes3 => omega
              case base3 => simp; omega
              · intro v3 w3 hown3 hgrow3 _
                rw [keyL_succ] at hown3
                have hB3 : Below w.heap.size w w3 := (hBr.alloc hsr _).grown hgrow3 (by simp; omega) (fun k hk => (HOr.out.lt k hk).1)
                have HO3 : Hid (w3.ownsRow w.heap.size 5 1 v3 (1 + (j + 1) + 1 + q + 1) ((keyL tag i (j + 1) (q + 1)).map (Value.int .u8))) := hown3
                clear hown3 hgrow3 HOr hBr
                go_wp2_with fail
                go_roundw
                case rel => exact ⟨q + 1, by omega, by go_num, HO3, hB3⟩
                case measure => simp [intOf]; omega
            · obtain ⟨g, cap, rfl⟩ := Joins.ownsRow_form HOr.out (by omega)
              have hcv := conv_own wr w.heap.size g _ cap (keyL tag i (j + 1) q) (by rw [length_keyL]) HOr.out
              go_wp2_with fail
              go_ret
              have e1 : q = pad % 8 := by omega
              refine ⟨?_, hBr⟩
              rw [keyB, HND.out, ← e1]
              rfl
    · go_wp2_with fail
      go_roundw
      case rel => exact ⟨j + 1, m / 10, by have := HM.out; have := digits_more i j m hi hj this hmz; omega, by go_num, by go_num, by omega, ⟨by rw [HM.out.1, Nat.pow_succ, Nat.div_div_eq_div_mul], by omega⟩, by rw [HA.out]⟩
      case measure => simp [intOf]; omega

/-! ### The keys are told apart by the tag and the number -/
theorem bytesOf_list (l : List Int) : (bytesOf l).data.toList = l.map (fun n => UInt8.ofNat n.toNat) := by
  have h : ∀ (l : List Int) (r : ByteArray), (l.foldl (fun r n => r.push (UInt8.ofNat n.toNat)) r).data.toList = r.data.toList ++ l.map (fun n => UInt8.ofNat n.toNat) := by
    intro l
    induction l with
    | nil => intro r; simp
    | cons n l ih => intro r; rw [List.foldl_cons, ih]; simp
  rw [bytesOf, h]
  simp
theorem size_bytesOf (l : List Int) : (bytesOf l).size = l.length := by
  have := congrArg List.length (bytesOf_list l)
  simpa using this
theorem ofNat_inj (a b : Int) (ha : 0 ≤ a ∧ a < 256) (hb : 0 ≤ b ∧ b < 256) (h : UInt8.ofNat a.toNat = UInt8.ofNat b.toNat) : a = b := by
  have := congrArg UInt8.toNat h
  simp at this
  omega
theorem bytesOf_inj : ∀ (l l' : List Int), (∀ n ∈ l, 0 ≤ n ∧ n < 256) → (∀ n ∈ l', 0 ≤ n ∧ n < 256) → l.map (fun n => UInt8.ofNat n.toNat) = l'.map (fun n => UInt8.ofNat n.toNat) → l = l'
  | [], [], _, _, _ => rfl
  | [], _ :: _, _, _, h => by simp at h
  | _ :: _, [], _, _, h => by simp at h
  | a :: l, b :: l', ha, hb, h => by
    simp only [List.map_cons, List.cons.injEq] at h
    rw [ofNat_inj a b (ha a (by simp)) (hb b (by simp)) h.1, bytesOf_inj l l' (fun n hn => ha n (by simp [hn])) (fun n hn => hb n (by simp [hn])) h.2]
theorem tl_range (i : Nat) : ∀ j, ∀ n ∈ tl i j, 48 ≤ n ∧ n ≤ 57
  | 0, n, hn => by cases hn
  | j + 1, n, hn => by
    rcases List.mem_cons.1 hn with rfl | hn
    · omega
    · exact tl_range i j n hn
theorem keyL_range (tag i k q : Nat) (ht : tag < 256) : ∀ n ∈ keyL tag i k q, 0 ≤ n ∧ n < 256 := by
  intro n hn
  simp only [keyL, List.mem_cons, List.mem_append, List.mem_replicate] at hn
  rcases hn with rfl | hn | rfl | ⟨_, rfl⟩
  · omega
  · have := tl_range i k n hn; omega
  · omega
  · omega
theorem upto_colon : ∀ (A A' r r' : List Int), (∀ n ∈ A, n ≠ 58) → (∀ n ∈ A', n ≠ 58) → A ++ 58 :: r = A' ++ 58 :: r' → A = A'
  | [], [], _, _, _, _, _ => rfl
  | [], b :: A', r, r', _, hb, h => by
    simp only [List.nil_append, List.cons_append, List.cons.injEq] at h
    exact absurd h.1.symm (hb b (by simp))
  | a :: A, [], r, r', ha, _, h => by
    simp only [List.nil_append, List.cons_append, List.cons.injEq] at h
    exact absurd h.1 (ha a (by simp))
  | a :: A, b :: A', r, r', ha, hb, h => by
    simp only [List.cons_append, List.cons.injEq] at h
    rw [h.1, upto_colon A A' r r' (fun n hn => ha n (by simp [hn])) (fun n hn => hb n (by simp [hn])) h.2]
theorem tl_inj (i i' : Nat) (hi : i ≤ 1024) (hi' : i' ≤ 1024) (h : tl i (nd i) = tl i' (nd i')) : i = i' := by
  have hl : nd i = nd i' := by have := congrArg List.length h; rwa [length_tl, length_tl] at this
  rw [← hl] at h
  have h4 : ∀ x, x ≤ 1024 → (nd x = 1 ∧ x < 10) ∨ (nd x = 2 ∧ x < 100) ∨ (nd x = 3 ∧ x < 1000) ∨ nd x = 4 := by
    intro x hx
    unfold nd
    repeat (first | omega | split)
  rcases h4 i hi with ⟨e, b⟩ | ⟨e, b⟩ | ⟨e, b⟩ | e <;> rcases h4 i' hi' with ⟨e', b'⟩ | ⟨e', b'⟩ | ⟨e', b'⟩ | e' <;> first | omega | (rw [e] at h; simp [tl] at h; omega)
theorem keyB_inj (tag i pad tag' i' pad' : Nat) (ht : tag < 256) (ht' : tag' < 256) (hi : i ≤ 1024) (hi' : i' ≤ 1024) (h : keyB tag i pad = keyB tag' i' pad') : tag = tag' ∧ i = i' := by
  have h1 := congrArg (fun b : ByteArray => b.data.toList) h
  simp only [keyB, bytesOf_list] at h1
  have h2 := bytesOf_inj _ _ (keyL_range tag i _ _ ht) (keyL_range tag' i' _ _ ht') h1
  simp only [keyL, List.cons.injEq] at h2
  refine ⟨by omega, tl_inj i i' hi hi' (upto_colon _ _ _ _ (fun n hn => ?_) (fun n hn => ?_) h2.2)⟩
  · have := tl_range _ _ n hn; omega
  · have := tl_range _ _ n hn; omega
theorem size_keyB (tag i pad : Nat) : (keyB tag i pad).size ≤ 13 := by
  rw [keyB, size_bytesOf, length_keyL]
  have : nd i ≤ 4 := by unfold nd; repeat (first | omega | split)
  omega
end Trim
end Go.Proofs.Ybulkagbm
