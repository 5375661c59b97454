/- A ROW OF BYTES OF THE CALL's OWN WHOSE BLOCK MAY BEAR A MARK BEHIND ITS LAST CELL ('[]byte(s)' lays such a row): 'G.Own', and what append does to it. -/
import Derived.Test.YbulkagcaOwn
import Derived.Laws.IdiomStrings
import Derived.Laws.CopyRow
namespace Go.Proofs.Ybulkagca.G
open Go.RowKit

/-- The slice value v owns the bytes l, from block B on; no cell of its row is frozen. -/
def Own (w : World) (B : Nat) (v : Value) (l : List Int) : Prop :=
  ∃ g cap cur fz, v = .slice (some ⟨g, 0, none⟩) l.length cap ∧ B ≤ g ∧ w.heap[g]? = some (.cells cur 5 fz) ∧ (∀ j, j < cap → (decide (fz.1 ≤ j) && decide (j < fz.2)) = false) ∧ l.length ≤ cap ∧ cap ≤ maxLen ∧ cur.size = cap ∧ cur.toList.take l.length = l.map (Value.int .u8)

theorem Own.kept {w w' : World} {B C : Nat} {v : Value} {l : List Int} (h : Own w B v l) (hb : Below C w w') (hv : ∀ k, v.ownBlock = some k → k < C) : Own w' B v l := by
  obtain ⟨g, cap, cur, fz, rfl, hB, hg, rest⟩ := h
  exact ⟨g, cap, cur, fz, rfl, hB, (hb.block g (hv g rfl)).trans hg, rest⟩
theorem Own.lt {w : World} {B : Nat} {v : Value} {l : List Int} (h : Own w B v l) : ∀ k, v.ownBlock = some k → B ≤ k ∧ k < w.heap.size := by
  intro k hk
  obtain ⟨g, cap, cur, fz, rfl, hB, hg, rest⟩ := h
  simp [Value.ownBlock] at hk
  subst hk
  exact ⟨hB, (Array.getElem?_eq_some_iff.1 hg).1⟩
theorem Own.alloc {w : World} {B : Nat} {v : Value} {l : List Int} (h : Own w B v l) (o : Obj) : Own (w.alloc o) B v l :=
  h.kept (C := w.heap.size) ((Below.refl _ _).alloc (Nat.le_refl _) o) (fun k hk => (h.lt k hk).2)
theorem Own.drewN {w : World} {B : Nat} {v : Value} {l : List Int} (h : Own w B v l) (q : Nat) : Own (w.drewN q) B v l := h
theorem Own.cells {w : World} {B g n cap : Nat} {l : List Int} (h : Own w B (.slice (some ⟨g, 0, none⟩) n cap) l) : ∀ j u, (l.map (Value.int .u8))[j]? = some u → w.cell? ((⟨g, 0, none⟩ : Addr).add j) = some u := by
  intro j u hu
  obtain ⟨g', cap', cur, fz, hv, hB, hg, _, _, _, _, ht⟩ := h
  cases hv
  rw [Addr.add_lit, Nat.zero_add, cell_of_row w g j cur 5 fz hg]
  rw [← ht, List.getElem?_take] at hu
  split at hu
  · simpa using hu
  · cases hu

theorem own_of {w : World} {B : Nat} {v : Value} {l : List Int} (h : Ybulkagca.Own w B v l) (hl : 0 < l.length) : Own w B v l := by
  rcases h.2 with ⟨_, hn⟩ | ⟨g, cap, cur, rfl, hB, hg, h1, h2, h3, h4⟩
  · omega
  · exact ⟨g, cap, cur, (0, 0), rfl, hB, hg, by simp, h1, h2, by omega, by simpa using h4⟩

/-- A row with the cells vs laid over it from place k on. -/
def over (cur : Array Value) (k : Nat) (vs : List Value) : Array Value := (cur.toList.take k ++ vs ++ cur.toList.drop (k + vs.length)).toArray
theorem over_nil (cur : Array Value) (k : Nat) : over cur k [] = cur := by simp [over]
theorem over_cons (cur : Array Value) (k : Nat) (v : Value) (vs : List Value) (h : k < cur.size) : over (cur.setIfInBounds k v) (k + 1) vs = over cur k (v :: vs) := by
  apply Array.ext_getElem?
  intro q
  simp only [over, List.getElem?_toArray, List.getElem?_append, List.getElem?_take, List.getElem?_drop, List.length_append, List.length_take, Array.length_toList, Array.getElem?_toList, Array.size_setIfInBounds, List.length_cons, Array.getElem?_setIfInBounds, List.getElem?_cons]
  rcases Nat.lt_trichotomy q k with h1 | h1 | h1
  · have a1 : q < min (k + 1) cur.size + vs.length := by omega
    have a2 : q < min (k + 1) cur.size := by omega
    have a3 : q < k + 1 := by omega
    have a4 : q < min k cur.size + (vs.length + 1) := by omega
    have a5 : q < min k cur.size := by omega
    have a6 : ¬ k = q := by omega
    simp [a1, a2, a3, a4, a5, a6, h1]
  · subst h1
    have a1 : q < min (q + 1) cur.size + vs.length := by omega
    have a2 : q < min (q + 1) cur.size := by omega
    have a3 : q < min q cur.size + (vs.length + 1) := by omega
    have a4 : ¬ q < min q cur.size := by omega
    have a5 : q - min q cur.size = 0 := by omega
    simp [a1, a2, a3, a4, a5, h]
  · have a2 : ¬ q < min (k + 1) cur.size := by omega
    have a4 : ¬ q < min k cur.size := by omega
    have a5 : ¬ q - min k cur.size = 0 := by omega
    have a6 : ¬ k = k + (vs.length + 1) + (q - (min k cur.size + (vs.length + 1))) := by omega
    have a7 : q - min (k + 1) cur.size = q - min k cur.size - 1 := by omega
    have a8 : k + 1 + vs.length + (q - (min (k + 1) cur.size + vs.length)) = k + (vs.length + 1) + (q - (min k cur.size + (vs.length + 1))) := by omega
    have a9 : (q < min (k + 1) cur.size + vs.length) = (q < min k cur.size + (vs.length + 1)) := by apply propext; omega
    simp only [a2, a4, a5, a6, a7, a8, a9, if_false]

/-- One cell stored into a row at a place that is not frozen. -/
theorem store_one (P : Program) (w : World) (g k : Nat) (t : TypeId) (fz : Nat × Nat) (cur : Array Value) (v : Value) (hg : w.heap[g]? = some (.cells cur t fz)) (hk : k < cur.size) (hf : (decide (fz.1 ≤ k) && decide (k < fz.2)) = false) (h1 : v.oneCell' = true) :
    (store ⟨g, k, none⟩ v).run P w = .ok () (w.setRow g (cur.setIfInBounds k v)) := by
  have hc : w.cell? ⟨g, k, none⟩ = some cur[k] := by simp [World.cell?, hg, hk]
  have hz : w.frozen? ⟨g, k, none⟩ = false := by
    obtain ⟨lo, hi⟩ := fz
    simpa [World.frozen?, hg] using hf
  rw [run_store P w _ v _ h1, hc]
  simp [hz, setCell_eq_setRow w g k cur t fz v hg]

/-- Cells stored into a row none of whose cells is frozen. -/
theorem run_store_free (P : Program) (g o : Nat) (t : TypeId) (fz : Nat × Nat) (vs : List Value) : ∀ (i : Nat) (cur : Array Value) (w : World), w.heap[g]? = some (.cells cur t fz) → (∀ j, j < cur.size → (decide (fz.1 ≤ j) && decide (j < fz.2)) = false) → o + i + vs.length ≤ cur.size → (∀ v ∈ vs, v.oneCell' = true) →
    (storeCells ⟨g, o, none⟩ vs i).run P w = .ok () (w.setRow g (over cur (o + i) vs)) := by
  induction vs with
  | nil =>
    intro i cur w hg _ _ _
    rw [over_nil, setRow_self w g cur t fz hg]
    rfl
  | cons v vs ih =>
    intro i cur w hg hf hl h1
    rw [List.length_cons] at hl
    have hst := store_one P w g (o + i) t fz cur v hg (by omega) (hf _ (by omega)) (h1 v List.mem_cons_self)
    have hnext := ih (i + 1) (cur.setIfInBounds (o + i) v) (w.setRow g (cur.setIfInBounds (o + i) v)) (setRow_heap w g cur _ t _ hg) (by simpa using hf) (by rw [Array.size_setIfInBounds]; omega) (fun x hx => h1 x (List.mem_cons_of_mem v hx))
    rw [setRow_setRow, ← Nat.add_assoc, over_cons cur (o + i) v vs (by omega)] at hnext
    simp only [storeCells, Sem.run_bind, Addr.add_lit, hst, Result.andThen_ok, hnext]

/-- Behind a store into the row's room. -/
theorem room_own {w : World} {B g cap : Nat} {cur : Array Value} {fz : Nat × Nat} {l news : List Int} (hB : B ≤ g) (hg : w.heap[g]? = some (.cells cur 5 fz)) (hfz : ∀ j, j < cap → (decide (fz.1 ≤ j) && decide (j < fz.2)) = false) (hcm : cap ≤ maxLen) (hcs : cur.size = cap)
    (ht : cur.toList.take l.length = l.map (Value.int .u8)) (hroom : l.length + news.length ≤ cap) :
    Own (w.setRow g (cur.toList.take l.length ++ news.map (Value.int .u8) ++ cur.toList.drop (l.length + news.length)).toArray) B (.slice (some ⟨g, 0, none⟩) (l.length + news.length) cap) (l ++ news) ∧
    Below B w (w.setRow g (cur.toList.take l.length ++ news.map (Value.int .u8) ++ cur.toList.drop (l.length + news.length)).toArray) := by
  refine ⟨⟨g, cap, _, fz, by rw [List.length_append], hB, setRow_heap w g cur _ 5 _ hg, hfz, by rw [List.length_append]; exact hroom, hcm, ?_, ?_⟩, ⟨rfl, rfl, rfl, by simp, fun k hk => setRow_other w g k _ (by omega)⟩⟩
  · simp only [List.size_toArray, List.length_append, List.length_take, List.length_drop, Array.length_toList, List.length_map]
    omega
  · rw [ht, List.length_append, ← List.map_append]
    have : l.length + news.length = ((l ++ news).map (Value.int .u8)).length := by simp
    rw [this]
    exact List.take_left
/-- Behind the growth. -/
theorem grow_own {w : World} {B cap : Nat} {l news : List Int} (hB : B ≤ w.heap.size) (h63 : l.length + news.length ≤ maxLen) :
    Own (w.drew.alloc (.cells ((l.map (Value.int .u8)).toArray ++ (news.map (Value.int .u8)).toArray ++ Builtin.zeroCells (Value.int .u8 0).cells (grownCap w (l.length + news.length) cap 5 - (l.length + news.length))) 5)) B
      (.slice (some ⟨w.heap.size, 0, none⟩) (l.length + news.length) (grownCap w (l.length + news.length) cap 5)) (l ++ news) ∧
    Below B w (w.drew.alloc (.cells ((l.map (Value.int .u8)).toArray ++ (news.map (Value.int .u8)).toArray ++ Builtin.zeroCells (Value.int .u8 0).cells (grownCap w (l.length + news.length) cap 5 - (l.length + news.length))) 5)) := by
  have hge := grownCap_ge w (l.length + news.length) cap 5
  have hcm : grownCap w (l.length + news.length) cap 5 ≤ maxLen := grownCap_le_maxLen w (l.length + news.length) cap 5 h63
  refine ⟨⟨w.heap.size, _, _, (0, 0), by rw [List.length_append], hB, heap_alloc_new w.drew _, by simp, by rw [List.length_append]; exact hge, hcm, ?_, ?_⟩, (Below.refl B w).drew.alloc (by simpa using hB) _⟩
  · have hz1 : (Value.int IntKind.u8 0).cells.size = 1 := rfl
    simp only [Array.size_append, List.size_toArray, size_zeroCells, hz1, List.length_map]
    omega
  · simp only [Array.toList_append, List.append_assoc]
    rw [← List.append_assoc, ← List.map_append]
    have : (l ++ news).length = ((l ++ news).map (Value.int .u8)).length := by simp
    rw [this]
    exact List.take_left

theorem app_slice (w : World) (B : Nat) (v : Value) (l : List Int) (hown : Own w B v l) (ty : TypeId) (ad : Addr) (m c : Nat) (news : List Int) (hl : news.length = m) (hnews : ∀ j, j < m → w.cell? (ad.add j) = some (.int .u8 (news.getD j 0))) (hsz : l.length + m ≤ 1000000) (hB : B ≤ w.heap.size) :
    ∃ v' w', (Builtin.append_ #[22, 22] ty #[v, .slice (some ad) m c]).run Yba.prog w = .ok v' w' ∧ Own w' B v' (l ++ news) ∧ Below B w w' := by
  subst hl
  obtain ⟨i0, hi, hz0, hz1, hz2⟩ := info_parts info5
  have hold := hown
  obtain ⟨g, cap, cur, fz, rfl, hBg, hg, hfz, hnc, hcm, hcs, ht⟩ := hown
  have hn : ∀ (j : Nat) (u : Value), (news.map (Value.int .u8))[j]? = some u → w.cell? (ad.add j) = some u := by
    intro j u hu
    have hj : j < news.length := by have := (List.getElem?_eq_some_iff.1 hu).1; simp at this; omega
    rw [hnews j hj, ← hu]
    simp [List.getD, hj]
  by_cases hroom : l.length + news.length ≤ cap
  · have hf := run_firstCells_some (P := Yba.prog) w 1 news.length ad news.length c (news.map (Value.int .u8)) (by simp) hn
    have hst := run_store_free Yba.prog g l.length 5 fz (news.map (Value.int .u8)) 0 cur w hg (by rw [hcs]; exact hfz) (by simp; omega) (ints_oneCell _ _)
    simp only [over, Nat.add_zero, List.length_map] at hst
    obtain ⟨h1, h2⟩ := room_own (news := news) hBg hg hfz hcm hcs ht hroom
    refine ⟨_, _, ?_, h1, h2⟩
    simp [Builtin.append_, run_underlying Yba.underlying22, sizeOf, typeInfo, hi, hz1, Builtin.lenOf, hroom, hf, Addr.add_lit, hst]
  · have hr := run_append_grow (P := Yba.prog) w 22 ty 5 i0 (.int .u8 0) Yba.underlying22 hi hz0 ⟨g, 0, none⟩ l.length cap (l.map (Value.int .u8)) (by simp [hz1]) hold.cells ad news.length c (news.map (Value.int .u8)) (by simp [hz1]) hn (by omega) (by omega) (by rw [hz2]; exact growslice_fits (by omega) (by omega))
    obtain ⟨h1, h2⟩ := grow_own (w := w) (B := B) (cap := cap) (l := l) (news := news) hB (by unfold maxLen; omega)
    exact ⟨_, _, hr, h1, h2⟩

theorem app_string (w : World) (B : Nat) (v : Value) (l : List Int) (hown : Own w B v l) (ty : TypeId) (s : ByteArray) (hsz : l.length + s.size ≤ 1000000) (hB : B ≤ w.heap.size) :
    ∃ v' w', (Builtin.append_ #[22, 9] ty #[v, .string s]).run Yba.prog w = .ok v' w' ∧ Own w' B v' (l ++ bytesI s) ∧ Below B w w' := by
  obtain ⟨i0, hi, hz0, hz1, hz2⟩ := info_parts info5
  have hold := hown
  obtain ⟨g, cap, cur, fz, rfl, hBg, hg, hfz, hnc, hcm, hcs, ht⟩ := hown
  have hlen := length_bytesI s
  by_cases hroom : l.length + s.size ≤ cap
  · have hf := Lib.run_firstCells_string (P := Yba.prog) w 1 s
    have hst := run_store_free Yba.prog g l.length 5 fz (Lib.strCells s) 0 cur w hg (by rw [hcs]; exact hfz) (by rw [Lib.strCells_length]; omega) (Lib.strCells_oneCell s)
    simp only [over, Nat.add_zero, Lib.strCells_length] at hst
    obtain ⟨h1, h2⟩ := room_own (news := bytesI s) hBg hg hfz hcm hcs ht (by omega)
    rw [hlen, ← strCells_eq] at h1 h2
    refine ⟨_, _, ?_, h1, h2⟩
    simp [Builtin.append_, run_underlying Yba.underlying22, run_underlying Yba.underlying9, sizeOf, typeInfo, hi, hz1, Builtin.lenOf, hroom, hf, Addr.add_lit, hst]
  · have hr := Lib.run_append_grow_string (P := Yba.prog) w 22 9 ty 5 i0 (.int .u8 0) Yba.underlying22 Yba.underlying9 hi hz0 ⟨g, 0, none⟩ l.length cap (l.map (Value.int .u8)) (by simp [hz1]) hold.cells s (by omega) (by omega) (by rw [hz2]; exact growslice_fits (by omega) (by omega))
    obtain ⟨h1, h2⟩ := grow_own (w := w) (B := B) (cap := cap) (l := l) (news := bytesI s) hB (by unfold maxLen; omega)
    rw [hlen, ← strCells_eq] at h1 h2
    exact ⟨_, _, hr, h1, h2⟩

theorem ap_slice {ops : Array Oper} {rest : List Oper} {o : Oper} {a : Act} {w : World} {Q : Exit → Act → World → Prop} (hgd : o.guard = none) (s x : Operand) (ho : o.op = .call { callee := .builtin .append, args := #[s, x], argTypes := #[22, 22] })
    (B : Nat) (v : Value) (l : List Int) (hs : a.eval s = v) (hown : Own w B v l) (ad : Addr) (m c : Nat) (news : List Int) (hx : a.eval x = .slice (some ad) m c) (hl : news.length = m)
    (hnews : ∀ j, j < m → w.cell? (ad.add j) = some (.int .u8 (news.getD j 0))) (hsz : l.length + m ≤ 1000000) (hB : B ≤ w.heap.size)
    (h : ∀ v' w', Own w' B v' (l ++ news) → Below B w w' → wpList Yba.prog ops Q rest (a.put o.dst v') w') : wpList Yba.prog ops Q (o :: rest) a w := by
  obtain ⟨v', w', hrun, h1, h2⟩ := app_slice w B v l hown o.type ad m c news hl hnews hsz hB
  refine wpList_plain hgd fun K hK => ?_
  unfold Oper.wp execOp
  simp only [ho, resolve, invoke, builtin, Sem.run_bind, Sem.run_pure, Result.andThen_ok, List.map_toArray, List.map_cons, List.map_nil, hs, hx, hrun]
  exact hK _ _ (h v' w' h1 h2)
theorem ap_string {ops : Array Oper} {rest : List Oper} {o : Oper} {a : Act} {w : World} {Q : Exit → Act → World → Prop} (hgd : o.guard = none) (s x : Operand) (ho : o.op = .call { callee := .builtin .append, args := #[s, x], argTypes := #[22, 9] })
    (B : Nat) (v : Value) (l : List Int) (hs : a.eval s = v) (hown : Own w B v l) (t : ByteArray) (hx : a.eval x = .string t) (hsz : l.length + t.size ≤ 1000000) (hB : B ≤ w.heap.size)
    (h : ∀ v' w', Own w' B v' (l ++ bytesI t) → Below B w w' → wpList Yba.prog ops Q rest (a.put o.dst v') w') : wpList Yba.prog ops Q (o :: rest) a w := by
  obtain ⟨v', w', hrun, h1, h2⟩ := app_string w B v l hown o.type t hsz hB
  refine wpList_plain hgd fun K hK => ?_
  unfold Oper.wp execOp
  simp only [ho, resolve, invoke, builtin, Sem.run_bind, Sem.run_pure, Result.andThen_ok, List.map_toArray, List.map_cons, List.map_nil, hs, hx, hrun]
  exact hK _ _ (h v' w' h1 h2)

/-- append as one step of a region that draws. -/
theorem step_own {ops : Array Oper} {o : Oper} {a : Act} {w : World} {K : Act → World → Prop} {Q : Exit → Act → World → Prop} {E : Prop}
    (hgd : o.guard = none) (s x : Operand) (hop : o.op = Op.call { callee := Callee.builtin Builtin.append, args := #[s, x], argTypes := #[22, 22] })
    (B : Nat) (v : Value) (l : List Int) (hs : a.eval s = v) (hown : Own w B v l) (ad : Addr) (m c : Nat) (news : List Int) (hx : a.eval x = .slice (some ad) m c) (hl : news.length = m)
    (hnews : ∀ j, j < m → w.cell? (ad.add j) = some (.int .u8 (news.getD j 0))) (hsz : l.length + m ≤ 1000000) (hB : B ≤ w.heap.size)
    (hK : ∀ v' w', Own w' B v' (l ++ news) → Below B w w' → K (a.put o.dst v') w') :
    if Region.wanted o (yielded ops a.tmps) = true then Oper.wp Yba.prog o a w K Q else E := by
  have hw : Region.wanted o (yielded ops a.tmps) = true := by simp [Region.wanted, hgd]
  rw [if_pos hw]
  obtain ⟨v', w', hrun, h1, h2⟩ := app_slice w B v l hown o.type ad m c news hl hnews hsz hB
  unfold Oper.wp
  simp [execOp, hop, resolve, invoke, builtin, hs, hx, hrun, Result.andThen]
  exact hK v' w' h1 h2

theorem conv_own (w : World) (B g n cap : Nat) (l : List Int) (hn : l.length = n) (h : Own w B (.slice (some ⟨g, 0, none⟩) n cap) l) :
    (convert 22 9 (.slice (some ⟨g, 0, none⟩) n cap)).run Yba.prog w = .ok (.string (bytesOf l)) w := by
  subst hn
  rw [run_convert_bytes_string w 22 9 5 _ _ _ Yba.underlying22 Yba.underlying5 Yba.underlying9]
  refine run_bytesToString w ⟨g, 0, none⟩ l.length cap l ?_
  have := run_loadCells_list (P := Yba.prog) w ⟨g, 0, none⟩ (l.map (Value.int .u8)) h.cells
  rwa [List.length_map] at this

/-- bytes.Equal of two rows that hold the same bytes. -/
theorem equal_same (w : World) (B C : Nat) (v u : Value) (l : List Int) (hv : Own w B v l) (hu : Own w C u l) : Calls Yba.prog 8 #[v, u] w fun e w' => e = .returned (.bool true) ∧ w' = w := by
  obtain ⟨g, cap, e1⟩ : ∃ g cap, v = .slice (some ⟨g, 0, none⟩) l.length cap := by obtain ⟨g, cap, _, _, e, _⟩ := hv; exact ⟨g, cap, e⟩
  obtain ⟨g2, cap2, e2⟩ : ∃ g cap, u = .slice (some ⟨g, 0, none⟩) l.length cap := by obtain ⟨g, cap, _, _, e, _⟩ := hu; exact ⟨g, cap, e⟩
  subst e1 e2
  have c1 := conv_own w B g _ cap l rfl hv
  have c2 := conv_own w C g2 _ cap2 l rfl hu
  go_enter Yba.func8, Yba.ntmps8
  go_wp2
  go_ret
  exact ⟨by simp, rfl⟩

/-- What '[]byte(s)' lays owns the string's bytes. -/
theorem own_bytes (w : World) (s : ByteArray) (hs : s.size ≤ 1000000) :
    Own (w.drew.alloc (.cells (bytesRow s (grownCap w s.size 0 5)) 5 ((bytesRow s (grownCap w s.size 0 5)).size, (bytesRow s (grownCap w s.size 0 5)).size + 1))) w.heap.size (.slice (some ⟨w.heap.size, 0, none⟩) s.size (grownCap w s.size 0 5)) (bytesI s) := by
  have hge := grownCap_ge w s.size 0 5
  have hcm : grownCap w s.size 0 5 ≤ maxLen := grownCap_le_maxLen w s.size 0 5 (by unfold maxLen; omega)
  have hsz : (bytesRow s (grownCap w s.size 0 5)).size = grownCap w s.size 0 5 := by
    have : s.data.size = s.size := rfl
    simp only [bytesRow, Array.size_append, Array.size_map, Array.size_replicate]
    omega
  refine ⟨w.heap.size, _, _, _, by rw [length_bytesI], Nat.le_refl _, heap_alloc_new w.drew _, ?_, by rw [length_bytesI]; exact hge, hcm, hsz, ?_⟩
  · intro j hj
    rw [hsz]
    simp
    omega
  · have : (bytesI s).length = ((bytesI s).map (Value.int .u8)).length := by simp
    rw [bytesRow, Array.toList_append, this]
    have e : (s.data.map fun b => Value.int .u8 (b.toNat : Int)).toList = (bytesI s).map (Value.int .u8) := by simp [bytesI]
    rw [e]
    exact List.take_left
end Go.Proofs.Ybulkagca.G
