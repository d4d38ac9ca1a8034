/- Plain notions for the walks over nat.inc: a row of words in one block; what stays but for two blocks. -/
import Derived.WalkKit
namespace Go.Proofs.Ybulkbkcu
open Go.RowKit

/-- Block b holds, from its head on, n words f 0, f 1, ..; none is frozen. -/
structure Row (w : World) (b n : Nat) (f : Nat → Int) : Prop where
  cell : ∀ i, i < n → w.cell? ⟨b, i, none⟩ = some (.int .u64 (f i))
  free : ∀ i, i < n → w.frozen? ⟨b, i, none⟩ = false

theorem Row.set {w : World} {b n : Nat} {f g : Nat → Int} (h : Row w b n f) {i : Nat} (hi : i < n) (v : Int) (hg : ∀ j, j < n → g j = if j = i then v else f j) :
    Row (w.setCell ⟨b, i, none⟩ (.int .u64 v)) b n g where
  cell j hj := by
    rw [hg j hj]
    by_cases e : j = i
    · subst e; rw [if_pos rfl]; exact World.cell?_setCell_same _ _ _ (h.cell j hj)
    · rw [if_neg e, World.cell?_setCell_other _ _ _ _ (by simp; try omega)]; exact h.cell j hj
  free j hj := by rw [World.frozen?_setCell]; exact h.free j hj

theorem Row.other {w : World} {b n : Nat} {f : Nat → Int} (h : Row w b n f) (a : Addr) (v : Value) (ha : a.block ≠ b) : Row (w.setCell a v) b n f where
  cell j hj := by rw [World.cell?_setCell_other _ _ _ _ (by intro e; subst e; exact ha rfl)]; exact h.cell j hj
  free j hj := by rw [World.frozen?_setCell]; exact h.free j hj

theorem Row.alloc {w : World} {b n : Nat} {f : Nat → Int} (h : Row w b n f) (o : Obj) (hb : b < w.heap.size) : Row (w.alloc o) b n f where
  cell j hj := by rw [World.cell?_alloc_past _ _ _ hb]; exact h.cell j hj
  free j hj := by rw [World.frozen?_alloc_past _ _ _ hb]; exact h.free j hj

theorem Row.drew {w : World} {b n : Nat} {f : Nat → Int} (h : Row w b n f) : Row w.drew b n f := ⟨h.cell, h.free⟩

theorem Row.congr {w : World} {b n : Nat} {f g : Nat → Int} (h : Row w b n f) (e : ∀ j, j < n → g j = f j) : Row w b n g :=
  ⟨fun j hj => by rw [e j hj]; exact h.cell j hj, h.free⟩

/-- All as it was, but for the blocks b and z. -/
structure But (b z : Nat) (w w' : World) : Prop where
  os : w'.os = w.os
  tape : w'.tape = w.tape
  output : w'.output = w.output
  size : w'.heap.size = w.heap.size
  block : ∀ k, k ≠ b → k ≠ z → w'.heap[k]? = w.heap[k]?

theorem But.refl (b z : Nat) (w : World) : But b z w w := ⟨rfl, rfl, rfl, rfl, fun _ _ _ => rfl⟩
theorem But.trans {b z : Nat} {u v w : World} (h : But b z u v) (k : But b z v w) : But b z u w :=
  ⟨k.os.trans h.os, k.tape.trans h.tape, k.output.trans h.output, k.size.trans h.size, fun x h1 h2 => (k.block x h1 h2).trans (h.block x h1 h2)⟩
theorem But.drew {b z : Nat} {u v : World} (h : But b z u v) : But b z u v.drew := ⟨h.os, h.tape, h.output, h.size, h.block⟩
theorem But.setCell {b z : Nat} {u v : World} (h : But b z u v) (a : Addr) (x : Value) (ha : a.block = b ∨ a.block = z) : But b z u (v.setCell a x) := by
  have hs : (v.setCell a x).heap.size = v.heap.size := by simp
  refine ⟨?_, ?_, ?_, hs.trans h.size, fun k h1 h2 => ?_⟩
  · exact (Below.setCell (Below.refl 0 v) (Nat.zero_le _) x).os.trans h.os
  · exact (Below.setCell (Below.refl 0 v) (Nat.zero_le _) x).tape.trans h.tape
  · exact (Below.setCell (Below.refl 0 v) (Nat.zero_le _) x).output.trans h.output
  · rw [Below.heap_setCell _ _ _ _ (by rcases ha with e | e <;> omega)]; exact h.block k h1 h2
theorem But.cell {b z : Nat} {w w' : World} (h : But b z w w') {p : Addr} (h1 : p.block ≠ b) (h2 : p.block ≠ z) : w'.cell? p = w.cell? p := World.cell?_of_block (w := w) (h.block p.block h1 h2)
theorem But.frozen {b z : Nat} {w w' : World} (h : But b z w w') {p : Addr} (h1 : p.block ≠ b) (h2 : p.block ≠ z) : w'.frozen? p = w.frozen? p := World.frozen?_of_block (w := w) (h.block p.block h1 h2)
theorem But.below {b z B : Nat} {w w' : World} (h : But b z w w') (h1 : B ≤ b) (h2 : B ≤ z) : Below B w w' :=
  ⟨h.os, h.tape, h.output, by rw [h.size]; exact Nat.le_refl _, fun k hk => h.block k (by omega) (by omega)⟩
theorem But.row {b z : Nat} {w w' : World} (h : But b z w w') {c n : Nat} {f : Nat → Int} (r : Row w c n f) (h1 : c ≠ b) (h2 : c ≠ z) : Row w' c n f :=
  ⟨fun j hj => (h.cell (p := ⟨c, j, none⟩) h1 h2).trans (r.cell j hj), fun j hj => (h.frozen (p := ⟨c, j, none⟩) h1 h2).trans (r.free j hj)⟩

/-- A word. -/
def Word (x : Int) : Prop := 0 ≤ x ∧ x < 18446744073709551616
def wmax : Int := 18446744073709551615
theorem wrap_max : IntKind.u64.wrap (wmax + 1) = 0 := by decide
theorem wrap_up {x : Int} (h : Word x) (h1 : x ≠ wmax) : IntKind.u64.wrap (x + 1) = x + 1 := by
  unfold wmax at h1; obtain ⟨a, b⟩ := h
  rw [show IntKind.u64.wrap (x + 1) = (x + 1) % 18446744073709551616 by simp [IntKind.wrap, IntKind.bits, IntKind.signed]]
  omega
end Go.Proofs.Ybulkbkcu
