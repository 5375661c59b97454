/- THE MAP OF GHOSTS (map[string]*entry, type 38), AS A LIST OF KEYS AND ENTRY BLOCKS: what len, a look-up with ok, a store of a new key and a delete do. -/
import Derived.Test.YbulkagbmRows
import Derived.Test.YbulkagbmHalve
import Derived.MapKept
import Derived.WalkKit
namespace Go.Proofs.Ybulkagbm
open Go.RowKit
namespace Trim

def kvOf (p : ByteArray × Nat) : Value × Value := (.string p.1, .pointer (some ⟨p.2, 0, none⟩))
def MapIs (w : World) (mb : Nat) (kvs : List (ByteArray × Nat)) : Prop :=
  ∃ es clock, w.heap[mb]? = some (.map es clock) ∧ es.toList.map (fun e => (e.key, e.val)) = kvs.map kvOf

theorem MapIs.of_block {w w' : World} {mb : Nat} {kvs : List (ByteArray × Nat)} (h : MapIs w mb kvs) (e : w'.heap[mb]? = w.heap[mb]?) : MapIs w' mb kvs := by
  obtain ⟨es, clock, hb, hk⟩ := h
  exact ⟨es, clock, e.trans hb, hk⟩
theorem MapIs.lt {w : World} {mb : Nat} {kvs : List (ByteArray × Nat)} (h : MapIs w mb kvs) : mb < w.heap.size := by
  obtain ⟨es, clock, hb, hk⟩ := h
  exact (Array.getElem?_eq_some_iff.1 hb).1

theorem same_str (a b : ByteArray) : Instr.sameNow .string (.string a) (.string b) = some (a == b) := rfl

theorem find_at (k : ByteArray) (b : Nat) (post : List (ByteArray × Nat)) : ∀ (pre : List (ByteArray × Nat)) (l : List MapEntry) (i : Nat), (∀ p ∈ pre, p.1 ≠ k) → l.map (fun e => (e.key, e.val)) = (pre ++ (k, b) :: post).map kvOf →
    Instr.findNow .string (.string k) l i = some (some (i + pre.length, .pointer (some ⟨b, 0, none⟩)))
  | [], [], i, _, h => by simp at h
  | [], e :: l, i, _, h => by
    simp only [List.nil_append, List.map_cons, List.cons.injEq, kvOf, Prod.mk.injEq] at h
    have he : (k == k) = true := (MapKept.bytes_beq k k).2 rfl
    simp [Instr.findNow, h.1.1, h.1.2, same_str, he]
  | p :: pre, [], i, _, h => by simp at h
  | p :: pre, e :: l, i, hp, h => by
    simp only [List.cons_append, List.map_cons, List.cons.injEq] at h
    have h1 : e.key = .string p.1 := congrArg Prod.fst h.1
    have hne : (k == p.1) = false := by
      cases hq : k == p.1 with
      | false => rfl
      | true => exact absurd ((MapKept.bytes_beq k p.1).1 hq).symm (hp p (by simp))
    have ih := find_at k b post pre l (i + 1) (fun q hq => hp q (by simp [hq])) h.2
    simp only [Instr.findNow, h1, same_str, hne, ih, List.length_cons]
    congr 3
    omega

theorem find_none (k : ByteArray) : ∀ (kvs : List (ByteArray × Nat)) (l : List MapEntry) (i : Nat), (∀ p ∈ kvs, p.1 ≠ k) → l.map (fun e => (e.key, e.val)) = kvs.map kvOf → Instr.findNow .string (.string k) l i = some none
  | [], [], i, _, _ => rfl
  | [], e :: l, i, _, h => by simp at h
  | p :: kvs, [], i, _, h => by simp at h
  | p :: kvs, e :: l, i, hp, h => by
    simp only [List.map_cons, List.cons.injEq] at h
    have h1 : e.key = .string p.1 := congrArg Prod.fst h.1
    have hne : (k == p.1) = false := by
      cases hq : k == p.1 with
      | false => rfl
      | true => exact absurd ((MapKept.bytes_beq k p.1).1 hq).symm (hp p (by simp))
    simp [Instr.findNow, h1, same_str, hne, find_none k kvs l (i + 1) (fun q hq => hp q (by simp [hq])) h.2]

theorem map_len {w : World} {mb : Nat} {kvs : List (ByteArray × Nat)} (h : MapIs w mb kvs) (ty : TypeId) : (Builtin.len_ #[38] ty #[.map (some mb)]).run Yba.prog w = .ok (.int .i64 kvs.length) w := by
  obtain ⟨es, clock, hb, hk⟩ := h
  have hl : es.size = kvs.length := by have := congrArg List.length hk; simpa using this
  simp [Builtin.len_, run_underlying Yba.underlying38, MapKept.run_getObj_map hb, goInt, hl]

theorem map_look_in {w : World} {mb : Nat} {kvs pre post : List (ByteArray × Nat)} {k : ByteArray} {b : Nat} (h : MapIs w mb kvs) (hk : kvs = pre ++ (k, b) :: post) (hp : ∀ p ∈ pre, p.1 ≠ k) :
    (Instr.lookup 38 (.map (some mb)) (.string k) true).run Yba.prog w = .ok (.tuple #[.pointer (some ⟨b, 0, none⟩), .bool true]) w := by
  obtain ⟨es, clock, hb, he⟩ := h
  rw [hk] at he
  have hf := find_at k b post pre es.toList 0 hp he
  simp [Instr.lookup, run_underlying Yba.underlying38, MapKept.run_getObj_map hb, MapKept.run_checkKey (d := .string) Yba.underlying9 (k := .string k) trivial, MapKept.run_findKey Yba.underlying9 hf]

theorem map_look_out {w : World} {mb : Nat} {kvs : List (ByteArray × Nat)} {k : ByteArray} (h : MapIs w mb kvs) (hp : ∀ p ∈ kvs, p.1 ≠ k) :
    (Instr.lookup 38 (.map (some mb)) (.string k) true).run Yba.prog w = .ok (.tuple #[.pointer none, .bool false]) w := by
  obtain ⟨es, clock, hb, he⟩ := h
  have hf := find_none k kvs es.toList 0 hp he
  simp [Instr.lookup, run_underlying Yba.underlying38, MapKept.run_getObj_map hb, MapKept.run_checkKey (d := .string) Yba.underlying9 (k := .string k) trivial, MapKept.run_findKey Yba.underlying9 hf]

/-- The world behind a turn of the map alone. -/
theorem map_put {w : World} {mb : Nat} {kvs : List (ByteArray × Nat)} {k : ByteArray} {b : Nat} (h : MapIs w mb kvs) (hp : ∀ p ∈ kvs, p.1 ≠ k) :
    ∃ w', (Instr.mapUpdate 38 (.map (some mb)) (.string k) (.pointer (some ⟨b, 0, none⟩))).run Yba.prog w = .ok () w' ∧ MapIs w' mb (kvs ++ [(k, b)]) ∧ Beside (fun x => x = mb) w w' := by
  obtain ⟨es, clock, hb, he⟩ := h
  have hf := find_none k kvs es.toList 0 hp he
  have hs := MapKept.heap_set hb (o' := .map (es.push { key := .string k, val := .pointer (some ⟨b, 0, none⟩), born := clock }) (clock + 1))
  refine ⟨{ w with heap := w.heap.setIfInBounds mb (.map (es.push { key := .string k, val := .pointer (some ⟨b, 0, none⟩), born := clock }) (clock + 1)) }, ?_, ⟨_, _, hs.1, ?_⟩, ⟨rfl, rfl, rfl, by simp, fun x hx => hs.2 x hx⟩⟩
  · simp [Instr.mapUpdate, run_underlying Yba.underlying38, MapKept.run_getObj_map hb, MapKept.run_checkKey (d := .string) Yba.underlying9 (k := .string k) trivial, MapKept.run_findKey Yba.underlying9 hf, MapKept.run_setObj_map _ hb]
  · simp [he, kvOf]

theorem erase_map {α β : Type} (f : α → β) : ∀ (l : List α) (k : Nat), (l.eraseIdx k).map f = (l.map f).eraseIdx k
  | [], _ => rfl
  | _ :: _, 0 => rfl
  | a :: l, k + 1 => by simp [erase_map f l k]

theorem map_drop {w : World} {mb : Nat} {kvs pre post : List (ByteArray × Nat)} {k : ByteArray} {b : Nat} (h : MapIs w mb kvs) (hk : kvs = pre ++ (k, b) :: post) (hp : ∀ p ∈ pre, p.1 ≠ k) (ty : TypeId) :
    ∃ w', (Builtin.delete_ #[38, 9] ty #[.map (some mb), .string k]).run Yba.prog w = .ok (.tuple #[]) w' ∧ MapIs w' mb (pre ++ post) ∧ Beside (fun x => x = mb) w w' := by
  obtain ⟨es, clock, hb, he⟩ := h
  rw [hk] at he
  have hf := find_at k b post pre es.toList 0 hp he
  rw [Nat.zero_add] at hf
  have hs := MapKept.heap_set hb (o' := .map (es.eraseIdxIfInBounds pre.length) clock)
  refine ⟨{ w with heap := w.heap.setIfInBounds mb (.map (es.eraseIdxIfInBounds pre.length) clock) }, ?_, ⟨_, _, hs.1, ?_⟩, ⟨rfl, rfl, rfl, by simp, fun x hx => hs.2 x hx⟩⟩
  · simp [Builtin.delete_, run_underlying Yba.underlying38, MapKept.run_getObj_map hb, MapKept.run_checkKey (d := .string) Yba.underlying9 (k := .string k) trivial, MapKept.run_findKey Yba.underlying9 hf, MapKept.run_setObj_map _ hb]
  · have hl : pre.length < es.size := by
      have := congrArg List.length he
      simp at this
      omega
    have e1 : (es.eraseIdxIfInBounds pre.length).toList = es.toList.eraseIdx pre.length := by
      unfold Array.eraseIdxIfInBounds
      rw [dif_pos hl]
      simp
    rw [e1, erase_map, he]
    simp [List.eraseIdx_append_of_length_le]
end Trim
end Go.Proofs.Ybulkagbm
