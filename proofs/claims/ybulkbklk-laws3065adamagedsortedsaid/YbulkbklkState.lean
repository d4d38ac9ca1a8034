/- The index as the law holds it, from step to step. -/
import Derived.Test.YbulkbklkIndex
import Derived.Test.YbulkbklkInsert
import Derived.Test.YbulkbklkShelf
import Derived.StringKeys
namespace Go.Proofs.Ybulkbklk
open Go.RowKit Go.Maps Go.Sort

theorem sortOk : SortOk := Any.sort_Strings Yba.lays192
theorem sortNone : SortNone := Any.sort_Strings_none Yba.lays192

/-- A map's keys, as put one by one. -/
def keysD (l : List Str) : DataW Unit := Maps.setOf .nil (l.map Lit.string)
theorem keysD_nil : keysD [] = .map [] := rfl
theorem keysD_snoc (l : List Str) (x : Str) : keysD (l ++ [x]) = (keysD l).put (.string x) .nil := by
  unfold keysD
  rw [List.map_append, List.map_singleton, Maps.setOf_snoc]
theorem isKey (l : List Str) : ∀ x ∈ l.map Lit.string, WideAt.IsKeyLit x := by
  intro x hx
  obtain ⟨y, _, rfl⟩ := List.mem_map.1 hx
  trivial
theorem has_keysD (l : List Str) (x : Str) : Maps.has (keysD l) (.string x) = true ↔ x ∈ l := by
  unfold keysD
  rw [Maps.has_setOf _ _ _ (isKey l), List.any_eq_true]
  constructor
  · rintro ⟨y, hy, hs⟩
    obtain ⟨z, hz, rfl⟩ := List.mem_map.1 hy
    have : z = x := by simpa [Lit.sameKey] using hs
    exact this ▸ hz
  · intro h
    exact ⟨.string x, List.mem_map.2 ⟨x, h, rfl⟩, by simp [Lit.sameKey]⟩
theorem perm_keysD {w : World} {b n : Nat} (l : List Str) (hown : w.ownsMap Yba.prog 9 anyE b n (keysD l)) : (insAll l).Perm (strKeys (keysD l)) :=
  Collected.perm (left := fun _ => false) ⟨nodup_of_sorted (sorted_insAll l), fun x => by rw [mem_insAll, ← has_keysD]; simp⟩ hown law9 Yba.underlying9 (fun _ => rfl)
theorem size_keysD {w : World} {b n : Nat} (l : List Str) (hown : w.ownsMap Yba.prog 9 anyE b n (keysD l)) : Maps.size (keysD l) = (insAll l).length := by
  rw [(perm_keysD l hown).length_eq]
  obtain ⟨es, he⟩ := hown.isMap
  rw [he]; simp [Maps.size, strKeys]
theorem sorted_keysD {w : World} {b n : Nat} (l ss : List Str) (hown : w.ownsMap Yba.prog 9 anyE b n (keysD l)) (hp : ss.Perm (strKeys (keysD l))) : ss.mergeSort leB = insAll l ∧ ss.length = (insAll l).length := by
  have h := hp.trans (perm_keysD l hown).symm
  exact ⟨sort_eq l ss (h.symm.nodup (nodup_of_sorted (sorted_insAll l))) (fun x => by rw [h.mem_iff, mem_insAll]), h.length_eq⟩

theorem cell_of_block {w w' : World} {b : Nat} (h : w'.heap[b]? = w.heap[b]?) (i : Nat) : w'.cell? ⟨b, i, none⟩ = w.cell? ⟨b, i, none⟩ := by simp [World.cell?, h]
theorem frozen_of_block {w w' : World} {b : Nat} (h : w'.heap[b]? = w.heap[b]?) (i : Nat) : w'.frozen? ⟨b, i, none⟩ = w.frozen? ⟨b, i, none⟩ := by simp [World.frozen?, h]

/-- The index: the two maps' keys, the struct's cells; below it all is as it was. -/
structure Held (w : World) (nd nf : Nat) (l f : List Str) (wr : World) : Prop where
  dam : wr.ownsMap Yba.prog 9 anyE (w.heap.size + 1) nd (keysD l)
  files : wr.ownsMap Yba.prog 9 anyE w.heap.size nf (keysD f)
  c1 : wr.cell? ⟨w.heap.size + 1 + 1 + 1, 1, none⟩ = some (.int .i32 0)
  c3 : wr.cell? ⟨w.heap.size + 1 + 1 + 1, 3, none⟩ = some (.int .u32 0)
  c4 : wr.cell? ⟨w.heap.size + 1 + 1 + 1, 4, none⟩ = some (.int .u32 0)
  c5 : wr.cell? ⟨w.heap.size + 1 + 1 + 1, 5, none⟩ = some (.int .i32 0)
  z5 : wr.frozen? ⟨w.heap.size + 1 + 1 + 1, 5, none⟩ = false
  c7 : wr.cell? ⟨w.heap.size + 1 + 1 + 1, 7, none⟩ = some (.map (some w.heap.size))
  c8 : wr.cell? ⟨w.heap.size + 1 + 1 + 1, 8, none⟩ = some (.map (some (w.heap.size + 1)))
  bel : Below w.heap.size w wr
  size : w.heap.size + 1 + 1 + 1 < wr.heap.size

theorem Held.move {w wr w' : World} {nd nf nd' nf' : Nat} {l f l' f' : List Str} (h : Held w nd nf l f wr) (hd : w'.ownsMap Yba.prog 9 anyE (w.heap.size + 1) nd' (keysD l')) (hf : w'.ownsMap Yba.prog 9 anyE w.heap.size nf' (keysD f'))
    (hc : ∀ i, w'.cell? ⟨w.heap.size + 1 + 1 + 1, i, none⟩ = wr.cell? ⟨w.heap.size + 1 + 1 + 1, i, none⟩) (hz : ∀ i, w'.frozen? ⟨w.heap.size + 1 + 1 + 1, i, none⟩ = wr.frozen? ⟨w.heap.size + 1 + 1 + 1, i, none⟩) (hb : Below w.heap.size w w') (hs : wr.heap.size ≤ w'.heap.size) :
    Held w nd' nf' l' f' w' :=
  ⟨hd, hf, (hc 1).trans h.c1, (hc 3).trans h.c3, (hc 4).trans h.c4, (hc 5).trans h.c5, (hz 5).trans h.z5, (hc 7).trans h.c7, (hc 8).trans h.c8, hb, Nat.lt_of_lt_of_le h.size hs⟩

theorem alloc_at (W : World) (o : Obj) : (W.alloc o).heap[W.heap.size]? = some o := by
  show (W.heap.push o)[W.heap.size]? = some o
  simp
theorem cell_at {w : World} {b : Nat} {cs : Array Value} {t : TypeId} (h : w.heap[b]? = some (.cells cs t (0, 0))) (i : Nat) : w.cell? ⟨b, i, none⟩ = cs[i]? := by simp only [World.cell?, h]; rfl
theorem frozen_at {w : World} {b : Nat} {cs : Array Value} {t : TypeId} (h : w.heap[b]? = some (.cells cs t (0, 0))) (i : Nat) : w.frozen? ⟨b, i, none⟩ = false := by simp [World.frozen?, h]
theorem Held.start (w : World) (dir : ByteArray) : Held w 0 0 [] [] ((((w.alloc (.map #[] 0)).alloc (.map #[] 0)).alloc (.map #[] 0)).alloc (.cells (idxCells dir w.heap.size) 42)) := by
  have hb : Below w.heap.size w ((((w.alloc (.map #[] 0)).alloc (.map #[] 0)).alloc (.map #[] 0)).alloc (.cells (idxCells dir w.heap.size) 42)) :=
    ((((Below.refl _ w).alloc (Nat.le_refl _) _).alloc (by simp) _).alloc (by simp; omega) _).alloc (by simp; omega) _
  have e : (((w.alloc (.map #[] 0)).alloc (.map #[] 0)).alloc (.map #[] 0)).heap.size = w.heap.size + 1 + 1 + 1 := by simp
  have hX : ((((w.alloc (.map #[] 0)).alloc (.map #[] 0)).alloc (.map #[] 0)).alloc (.cells (idxCells dir w.heap.size) 42)).heap[w.heap.size + 1 + 1 + 1]? = some (.cells (idxCells dir w.heap.size) 42 (0, 0)) := by
    rw [← e]; exact alloc_at _ _
  have m1 : (((w.alloc (.map #[] 0)).alloc (.map #[] 0)).alloc (.map #[] 0)).ownsMap Yba.prog 9 anyE (w.heap.size + 1) 0 (.map []) := by
    have := ((World.ownsMap_made (w.alloc (.map #[] 0)) Yba.prog 9 anyE).alloc (.map #[] 0))
    simpa using this
  have m0 := (((World.ownsMap_made w Yba.prog 9 anyE).alloc (.map #[] 0)).alloc (.map #[] 0)).alloc (.cells (idxCells dir w.heap.size) 42)
  exact ⟨m1.alloc _, m0, cell_at hX 1, cell_at hX 3, cell_at hX 4, cell_at hX 5, frozen_at hX 5, cell_at hX 7, cell_at hX 8, hb, by simp⟩

theorem Held.putD {w wr w' : World} {nd nf : Nat} {l f : List Str} (h : Held w nd nf l f wr) {x : Str} (hd : w'.ownsMap Yba.prog 9 anyE (w.heap.size + 1) (nd + 1) ((keysD l).put (.string x) .nil)) (hg : wr.grownBy w' (some (w.heap.size + 1))) : Held w (nd + 1) nf (l ++ [x]) f w' := by
  have hX : w'.heap[w.heap.size + 1 + 1 + 1]? = wr.heap[w.heap.size + 1 + 1 + 1]? := hg.block _ h.size (by simp; omega)
  exact h.move (by rw [keysD_snoc]; exact hd) (h.files.kept hg (by simp)) (cell_of_block hX) (frozen_of_block hX) (h.bel.grown hg h.bel.size (fun j hj => by cases hj; omega)) hg.size

theorem Held.alloc {w wr : World} {nd nf : Nat} {l f : List Str} (h : Held w nd nf l f wr) (o : Obj) : Held w nd nf l f (wr.alloc o) := by
  have hg := World.grownBy_alloc wr o none
  have hX : (wr.alloc o).heap[w.heap.size + 1 + 1 + 1]? = wr.heap[w.heap.size + 1 + 1 + 1]? := hg.block _ h.size (by simp)
  exact h.move (h.dam.alloc o) (h.files.alloc o) (cell_of_block hX) (frozen_of_block hX) (h.bel.alloc h.bel.size o) hg.size
theorem Held.putF {w wr w' : World} {nd nf : Nat} {l f : List Str} (h : Held w nd nf l f wr) {x : Str} (hf : w'.ownsMap Yba.prog 9 anyE w.heap.size (nf + 1) ((keysD f).put (.string x) .nil)) (hg : wr.grownBy w' (some w.heap.size)) : Held w nd (nf + 1) l (f ++ [x]) w' := by
  have hX : w'.heap[w.heap.size + 1 + 1 + 1]? = wr.heap[w.heap.size + 1 + 1 + 1]? := hg.block _ h.size (by simp; omega)
  exact h.move (h.dam.kept hg (by simp)) (by rw [keysD_snoc]; exact hf) (cell_of_block hX) (frozen_of_block hX) (h.bel.grown hg h.bel.size (fun j hj => by cases hj; omega)) hg.size
theorem Held.stood {w wr w' : World} {nd nf : Nat} {l f : List Str} (h : Held w nd nf l f wr) (hs : Stood (w.heap.size + 1 + 1 + 1) wr w') : Held w nd nf l f w' := by
  have hz := h.size
  have b0 := hs.block w.heap.size (by omega) (by omega)
  have b1 := hs.block (w.heap.size + 1) (by omega) (by omega)
  refine h.move ?_ ?_ hs.cells hs.frozen ⟨hs.os.trans h.bel.os, hs.tape.trans h.bel.tape, hs.output.trans h.bel.output, Nat.le_trans h.bel.size hs.size, fun k hk => (hs.block k (by omega) (by omega)).trans (h.bel.block k hk)⟩ hs.size
  · obtain ⟨es, clock, hb, r⟩ := h.dam; exact ⟨es, clock, b1.trans hb, r⟩
  · obtain ⟨es, clock, hb, r⟩ := h.files; exact ⟨es, clock, b0.trans hb, r⟩
theorem Held.below {w wr w' : World} {nd nf : Nat} {l f : List Str} (h : Held w nd nf l f wr) {B : Nat} (hB : w.heap.size + 1 + 1 + 1 < B) (hb : Below B wr w') : Held w nd nf l f w' := by
  have b0 := hb.block w.heap.size (by omega)
  have b1 := hb.block (w.heap.size + 1) (by omega)
  have hX := hb.block (w.heap.size + 1 + 1 + 1) hB
  refine h.move ?_ ?_ (cell_of_block hX) (frozen_of_block hX) ⟨hb.os.trans h.bel.os, hb.tape.trans h.bel.tape, hb.output.trans h.bel.output, Nat.le_trans h.bel.size hb.size, fun k hk => (hb.block k (by omega)).trans (h.bel.block k hk)⟩ hb.size
  · obtain ⟨es, clock, hb, r⟩ := h.dam; exact ⟨es, clock, b1.trans hb, r⟩
  · obtain ⟨es, clock, hb, r⟩ := h.files; exact ⟨es, clock, b0.trans hb, r⟩

/-- damagedFiles on the index. -/
theorem Held.call {w wr : World} {nd nf : Nat} {l f : List Str} (h : Held w nd nf l f wr) (hl : l.length ≤ 1024) :
    Calls Yba.prog 5 #[.pointer (some ⟨w.heap.size + 1 + 1 + 1, 0, none⟩)] wr fun e w' => ∃ v, e = .returned v ∧ w'.ownsRow wr.heap.size 9 1 v (insAll l).length ((insAll l).map encStr) ∧ (insAll l = [] → v = .slice none 0 0) ∧ Held w nd nf l f w' ∧ wr.heap.size ≤ w'.heap.size := by
  refine (damaged_any sortOk sortNone _ _ nd (keysD l) _ _ _ wr h.c1 h.c3 h.c4 h.c5 h.z5 h.c8 (by omega) h.dam (by rw [size_keysD l h.dam]; exact Nat.le_trans (length_insAll l) hl)).mono ?_
  rintro e w' ⟨v, ss, he, hp, hown, hn, hs⟩
  obtain ⟨h1, h2⟩ := sorted_keysD l ss h.dam hp
  rw [h1, h2] at hown
  exact ⟨v, he, hown, fun h0 => hn (List.eq_nil_of_length_eq_zero (by rw [h2, h0]; rfl)), h.stood hs, hs.size⟩

/-- A slice of strings that came in. -/
def CameS (w : World) (a : Option Addr) (ds : List ByteArray) : Prop := ∀ i (h : i < ds.length), ∃ x, a = some x ∧ w.cell? (x.add i) = some (.string ds[i])
theorem CameS.at {w wr : World} {a : Option Addr} {ds : List ByteArray} (h : CameS w a ds) (hb : Below w.heap.size w wr) {i : Nat} (hi : i < ds.length) : ∃ x, a = some x ∧ wr.cell? (x.add i) = some (.string ds[i]) := by
  obtain ⟨x, hx, hc⟩ := h i hi
  exact ⟨x, hx, (hb.cell (p := x.add i) (World.block_lt_of_cell? _ _ hc)).trans hc⟩
def sl (ds : List ByteArray) : List Str := ds.map (·.data.toList)
theorem sl_take (ds : List ByteArray) {k : Nat} (hk : k < ds.length) : (sl ds).take (k + 1) = (sl ds).take k ++ [ds[k].data.toList] := by
  unfold sl
  rw [List.take_add_one, List.getElem?_map, List.getElem?_eq_getElem hk]; simp
end Go.Proofs.Ybulkbklk
