/- THE CONTRACTS OF zzs1599apiece (9) AND zzs1599aescaped (10); append of a string where there is room. -/
import Derived.Test.YbulkagcaOwnG
import Derived.Test.YbulkagcaPieces
namespace Go.Proofs.Ybulkagca.G
open Go.RowKit

theorem piece_at (w : World) (k : Nat) (hk : k < 10) : Calls Yba.prog 9 #[.int .i64 (k : Int)] w fun e w' => ∃ t, e = .returned (.string t) ∧ bytesI t = piece k ∧ w' = w := by
  match k, hk with
  | 0, _ => go_enter Yba.func9, Yba.ntmps9; go_wp2; go_ret; exact ⟨_, rfl, rfl, rfl⟩
  | 1, _ => go_enter Yba.func9, Yba.ntmps9; go_wp2; go_ret; exact ⟨_, rfl, rfl, rfl⟩
  | 2, _ => go_enter Yba.func9, Yba.ntmps9; go_wp2; go_ret; exact ⟨_, rfl, rfl, rfl⟩
  | 3, _ => go_enter Yba.func9, Yba.ntmps9; go_wp2; go_ret; exact ⟨_, rfl, rfl, rfl⟩
  | 4, _ => go_enter Yba.func9, Yba.ntmps9; go_wp2; go_ret; exact ⟨_, rfl, rfl, rfl⟩
  | 5, _ => go_enter Yba.func9, Yba.ntmps9; go_wp2; go_ret; exact ⟨_, rfl, rfl, rfl⟩
  | 6, _ => go_enter Yba.func9, Yba.ntmps9; go_wp2; go_ret; exact ⟨_, rfl, rfl, rfl⟩
  | 7, _ => go_enter Yba.func9, Yba.ntmps9; go_wp2; go_ret; exact ⟨_, rfl, rfl, rfl⟩
  | 8, _ => go_enter Yba.func9, Yba.ntmps9; go_wp2; go_ret; exact ⟨_, rfl, rfl, rfl⟩
  | 9, _ => go_enter Yba.func9, Yba.ntmps9; go_wp2; go_ret; exact ⟨_, rfl, rfl, rfl⟩

theorem escd_at (w : World) (k : Nat) (hk : k < 10) : Calls Yba.prog 10 #[.int .i64 (k : Int)] w fun e w' => ∃ t, e = .returned (.string t) ∧ bytesI t = escd k ∧ w' = w := by
  match k, hk with
  | 0, _ => go_enter Yba.func10, Yba.ntmps10; go_wp2; go_ret; exact ⟨_, rfl, rfl, rfl⟩
  | 1, _ => go_enter Yba.func10, Yba.ntmps10; go_wp2; go_ret; exact ⟨_, rfl, rfl, rfl⟩
  | 2, _ => go_enter Yba.func10, Yba.ntmps10; go_wp2; go_ret; exact ⟨_, rfl, rfl, rfl⟩
  | 3, _ => go_enter Yba.func10, Yba.ntmps10; go_wp2; go_ret; exact ⟨_, rfl, rfl, rfl⟩
  | 4, _ => go_enter Yba.func10, Yba.ntmps10; go_wp2; go_ret; exact ⟨_, rfl, rfl, rfl⟩
  | 5, _ => go_enter Yba.func10, Yba.ntmps10; go_wp2_with (go_at_call 9; refine (piece_at w 5 (by omega)).mono ?_; rintro e w1 ⟨t, rfl, ht, rfl⟩); go_wp2_with fail; go_ret; exact ⟨_, rfl, ht, rfl⟩
  | 6, _ => go_enter Yba.func10, Yba.ntmps10; go_wp2_with (go_at_call 9; refine (piece_at w 6 (by omega)).mono ?_; rintro e w1 ⟨t, rfl, ht, rfl⟩); go_wp2_with fail; go_ret; exact ⟨_, rfl, ht, rfl⟩
  | 7, _ => go_enter Yba.func10, Yba.ntmps10; go_wp2_with (go_at_call 9; refine (piece_at w 7 (by omega)).mono ?_; rintro e w1 ⟨t, rfl, ht, rfl⟩); go_wp2_with fail; go_ret; exact ⟨_, rfl, ht, rfl⟩
  | 8, _ => go_enter Yba.func10, Yba.ntmps10; go_wp2_with (go_at_call 9; refine (piece_at w 8 (by omega)).mono ?_; rintro e w1 ⟨t, rfl, ht, rfl⟩); go_wp2_with fail; go_ret; exact ⟨_, rfl, ht, rfl⟩
  | 9, _ => go_enter Yba.func10, Yba.ntmps10; go_wp2_with (go_at_call 9; refine (piece_at w 9 (by omega)).mono ?_; rintro e w1 ⟨t, rfl, ht, rfl⟩); go_wp2_with fail; go_ret; exact ⟨_, rfl, ht, rfl⟩

/-- append of a string onto a row with room: the slice stays where it is. -/
theorem ap_room {ops : Array Oper} {rest : List Oper} {o : Oper} {a : Act} {w : World} {Q : Exit → Act → World → Prop} (hgd : o.guard = none) (s x : Operand) (ho : o.op = .call { callee := .builtin .append, args := #[s, x], argTypes := #[22, 9] })
    (B g n cap : Nat) (l : List Int) (hn : l.length = n) (hs : a.eval s = .slice (some ⟨g, 0, none⟩) n cap) (hown : Own w B (.slice (some ⟨g, 0, none⟩) n cap) l) (t : ByteArray) (hx : a.eval x = .string t) (hroom : n + t.size ≤ cap)
    (h : ∀ w', Own w' B (.slice (some ⟨g, 0, none⟩) (n + t.size) cap) (l ++ bytesI t) → w'.heap.size = w.heap.size → (∀ k, k ≠ g → w'.heap[k]? = w.heap[k]?) → Below B w w' → wpList Yba.prog ops Q rest (a.put o.dst (.slice (some ⟨g, 0, none⟩) (n + t.size) cap)) w') : wpList Yba.prog ops Q (o :: rest) a w := by
  subst hn
  obtain ⟨i0, hi, hz0, hz1, hz2⟩ := info_parts info5
  obtain ⟨g', cap', cur, fz, hv, hBg, hg, hfz, hnc, hcm, hcs, ht⟩ := hown
  cases hv
  have hlen := length_bytesI t
  have hf := Lib.run_firstCells_string (P := Yba.prog) w 1 t
  have hst := run_store_free Yba.prog g l.length 5 fz (Lib.strCells t) 0 cur w hg (by rw [hcs]; exact hfz) (by rw [Lib.strCells_length]; omega) (Lib.strCells_oneCell t)
  simp only [over, Nat.add_zero, Lib.strCells_length] at hst
  obtain ⟨h1, h2⟩ := room_own (news := bytesI t) hBg hg hfz hcm hcs ht (by omega)
  rw [hlen, ← strCells_eq] at h1 h2
  have hrun : (Builtin.append_ #[22, 9] o.type #[.slice (some ⟨g, 0, none⟩) l.length cap, .string t]).run Yba.prog w = .ok (.slice (some ⟨g, 0, none⟩) (l.length + t.size) cap) (w.setRow g (cur.toList.take l.length ++ Lib.strCells t ++ cur.toList.drop (l.length + t.size)).toArray) := by
    simp [Builtin.append_, run_underlying Yba.underlying22, run_underlying Yba.underlying9, sizeOf, typeInfo, hi, hz1, Builtin.lenOf, hroom, hf, Addr.add_lit, hst]
  refine wpList_plain hgd fun K hK => ?_
  unfold Oper.wp execOp
  simp only [ho, resolve, invoke, builtin, Sem.run_bind, Sem.run_pure, Result.andThen_ok, List.map_toArray, List.map_cons, List.map_nil, hs, hx, hrun]
  exact hK _ _ (h _ h1 (by simp) (fun k hk => setRow_other w g k _ hk) h2)
/-- A row of the call's own, where another block alone was written. -/
theorem Own.beside {w w' : World} {B g n cap : Nat} {l : List Int} (h : Own w B (.slice (some ⟨g, 0, none⟩) n cap) l) {g2 : Nat} (hne : g ≠ g2) (hk : ∀ k, k ≠ g2 → w'.heap[k]? = w.heap[k]?) : Own w' B (.slice (some ⟨g, 0, none⟩) n cap) l := by
  obtain ⟨g', cap', cur, fz, hv, hB, hg, rest⟩ := h
  cases hv
  exact ⟨g, cap, cur, fz, rfl, hB, (hk g hne).trans hg, rest⟩
theorem own_some {w : World} {B n cap : Nat} {ad : Addr} {l : List Int} (h : Ybulkagca.Own w B (.slice (some ad) n cap) l) : Own w B (.slice (some ad) n cap) l := by
  rcases h.2 with ⟨hn, _⟩ | ⟨g, cap, cur, hv, hB, hg, h1, h2, h3, h4⟩
  · cases hn
  · exact ⟨g, cap, cur, (0, 0), hv, hB, hg, by simp, h1, h2, by omega, by simpa using h4⟩
/-- The first i picks, as numbers of pieces. -/
def ks (p : Nat → Nat) (i : Nat) : List Nat := (List.range i).map (fun j => p j % 10)
theorem ks_succ (p : Nat → Nat) (i : Nat) : ks p (i + 1) = ks p i ++ [p i % 10] := by simp [ks, List.range_succ]
theorem length_ks (p : Nat → Nat) (i : Nat) : (ks p i).length = i := by simp [ks]
end Go.Proofs.Ybulkagca.G
