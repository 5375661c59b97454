/- A ROW OF BYTES OF THE CALL's OWN ('Own'), and what append does to it: one law for a slice, one for a string; string(b) of it. -/
import Derived.Test.YbulkagcaRows
import Derived.WalkKit
import Derived.WalkLawsBesides
import Derived.Lib.AppendStr
import Derived.Lib.SmallJoins
import Derived.Laws.BytesString
import Derived.Maps.AppendAt
namespace Go.Proofs.Ybulkagca
open Go.RowKit

theorem info5 : (Yba.prog.info? 5).map (fun i => (i.zero, i.size, i.bytes)) = some (some (.int .u8 0), 1, 1) := by kernel_rfl

/-- The slice value v owns the bytes l, from block B on. -/
def Own (w : World) (B : Nat) (v : Value) (l : List Int) : Prop := w.ownsRow B 5 1 v l.length (l.map (Value.int .u8))

theorem Own.alloc {w : World} {B : Nat} {v : Value} {l : List Int} (h : Own w B v l) (o : Obj) : Own (w.alloc o) B v l := World.ownsRow.alloc h o
theorem Own.drewN {w : World} {B : Nat} {v : Value} {l : List Int} (h : Own w B v l) (q : Nat) : Own (w.drewN q) B v l := h
theorem Own.kept {w w' : World} {B C : Nat} {v : Value} {l : List Int} (h : Own w B v l) (hb : Below C w w') (hv : ∀ k, v.ownBlock = some k → k < C) : Own w' B v l := by
  refine ⟨h.1, ?_⟩
  rcases h.2 with hn | ⟨g, cap, cur, rfl, hB, hg, rest⟩
  · exact .inl hn
  · exact .inr ⟨g, cap, cur, rfl, hB, (hb.block g (hv g rfl)).trans hg, rest⟩
theorem Own.form {w : World} {B : Nat} {v : Value} {l : List Int} (h : Own w B v l) (hn : 0 < l.length) : ∃ g cap, v = .slice (some ⟨g, 0, none⟩) l.length cap := Joins.ownsRow_form h hn

theorem below_own {w w' : World} {B : Nat} {v : Value} {l : List Int} (h : Own w B v l) (hB : B ≤ w.heap.size) (hg : w.grownBy w' v.ownBlock) : Below B w w' :=
  (Below.refl _ _).grown hg hB (fun k hk => (h.lt k hk).1)

theorem ap_slice {ops : Array Oper} {rest : List Oper} {o : Oper} {a : Act} {w : World} {Q : Exit → Act → World → Prop} (hgd : o.guard = none) (s x : Operand) (ho : o.op = .call { callee := .builtin .append, args := #[s, x], argTypes := #[22, 22] })
    (B : Nat) (v : Value) (l : List Int) (hs : a.eval s = v) (hown : Own w B v l) (ad : Addr) (m c : Nat) (news : List Int) (hx : a.eval x = .slice (some ad) m c) (hl : news.length = m)
    (hnews : ∀ j, j < m → w.cell? (ad.add j) = some (.int .u8 (news.getD j 0))) (hsz : l.length + m ≤ 1000000) (hB : B ≤ w.heap.size)
    (h : ∀ v' w', Own w' B v' (l ++ news) → Below B w w' → wpList Yba.prog ops Q rest (a.put o.dst v') w') : wpList Yba.prog ops Q (o :: rest) a w := by
  obtain ⟨i0, hi, hz0, hz1, hz2⟩ := info_parts info5
  refine wpList_append_own w hgd s x 22 ho B 5 i0 (.int .u8 0) 1 1 Yba.underlying22 hi hz0 hz1 hz2 rfl (by decide) v l.length (l.map (Value.int .u8)) hs hown ad m c (news.map (Value.int .u8)) hx (by simp [hl]) ?_ (ints_oneCell _ _) (by unfold maxLen; omega) (by omega) hB ?_
  · intro j u hu
    have hj : j < m := by have := (List.getElem?_eq_some_iff.1 hu).1; simp at this; omega
    rw [hnews j hj, ← hu]
    simp [List.getD, show j < news.length by omega]
  · intro v' w' h1 h2 _
    refine h v' w' ?_ (below_own hown hB h2)
    unfold Own
    rw [List.length_append, hl, List.map_append]
    exact h1

def bytesI (s : ByteArray) : List Int := s.data.toList.map (fun b => (b.toNat : Int))
theorem strCells_eq (s : ByteArray) : Lib.strCells s = (bytesI s).map (Value.int .u8) := by simp [Lib.strCells, bytesI]
theorem length_bytesI (s : ByteArray) : (bytesI s).length = s.size := by simp [bytesI]

theorem ap_string {ops : Array Oper} {rest : List Oper} {o : Oper} {a : Act} {w : World} {Q : Exit → Act → World → Prop} (hgd : o.guard = none) (s x : Operand) (ho : o.op = .call { callee := .builtin .append, args := #[s, x], argTypes := #[22, 9] })
    (B : Nat) (v : Value) (l : List Int) (hs : a.eval s = v) (hown : Own w B v l) (t : ByteArray) (hx : a.eval x = .string t) (hsz : l.length + t.size ≤ 1000000) (hB : B ≤ w.heap.size)
    (h : ∀ v' w', Own w' B v' (l ++ bytesI t) → Below B w w' → wpList Yba.prog ops Q rest (a.put o.dst v') w') : wpList Yba.prog ops Q (o :: rest) a w := by
  obtain ⟨i0, hi, hz0, hz1, hz2⟩ := info_parts info5
  refine Lib.wpList_append_own_string w hgd s x 22 9 ho B 5 i0 Yba.underlying22 Yba.underlying9 hi hz0 hz1 hz2 v l.length (l.map (Value.int .u8)) hs hown t hx (by unfold maxLen; omega) (by omega) hB ?_
  intro v' w' h1 h2 _
  refine h v' w' ?_ (below_own hown hB h2)
  unfold Own
  rw [List.length_append, length_bytesI, List.map_append, ← strCells_eq]
  exact h1

def bytesOf (l : List Int) : ByteArray := l.foldl (fun r n => r.push (UInt8.ofNat n.toNat)) ByteArray.empty
theorem conv_own (w : World) (B g n cap : Nat) (l : List Int) (hn : l.length = n) (h : Own w B (.slice (some ⟨g, 0, none⟩) n cap) l) :
    (convert 22 9 (.slice (some ⟨g, 0, none⟩) n cap)).run Yba.prog w = .ok (.string (bytesOf l)) w := by
  subst hn
  rw [run_convert_bytes_string w 22 9 5 _ _ _ Yba.underlying22 Yba.underlying5 Yba.underlying9]
  refine run_bytesToString w ⟨g, 0, none⟩ l.length cap l ?_
  have := run_loadCells_list (P := Yba.prog) w ⟨g, 0, none⟩ (l.map (Value.int .u8)) (World.ownsRow.cells h rfl)
  rwa [List.length_map] at this

/-- bytes.Equal of two rows that hold the same bytes. -/
theorem equal_same (w : World) (B C : Nat) (v u : Value) (l : List Int) (hl : 0 < l.length) (hv : Own w B v l) (hu : Own w C u l) : Calls Yba.prog 8 #[v, u] w fun e w' => e = .returned (.bool true) ∧ w' = w := by
  obtain ⟨g, cap, rfl⟩ := hv.form hl
  obtain ⟨g2, cap2, rfl⟩ := hu.form hl
  have c1 := conv_own w B g _ cap l rfl hv
  have c2 := conv_own w C g2 _ cap2 l rfl hu
  go_enter Yba.func8, Yba.ntmps8
  go_wp2
  go_ret
  exact ⟨by simp, rfl⟩
end Go.Proofs.Ybulkagca
