/- Aids for the walk of LawS3049BMatchesModel: 'make' and 'copy' in one. -/
import Derived.Test.YbulkbkcuInc
import Derived.Laws.CopyOwn
import Derived.Deep.OwnRows
import Derived.Deep.QuietTactic
import Derived.BigQuiet
namespace Go.Proofs.Ybulkbkcu
open Go.RowKit

theorem Yba.info23 : (Yba.prog.info? 23).map (fun i => (i.zero, i.size, i.bytes)) = some (some (.int .u64 0), 1, 8) := by kernel_rfl
theorem Yba.size23 : (Yba.prog.info? 23).map (·.size) = some 1 := by kernel_rfl

theorem made_at (z : Value) (n i : Nat) (h : i < n) : (madeCells #[z] n)[i]? = some z := by
  simp [madeCells, h, Nat.mod_one]

/-- What the walk is told of the words that came in. -/
def Came (w : World) (a : Option Addr) (l : Nat) (g : Nat → Int) : Prop := 0 < l → ∃ ad, a = some ad ∧ ∀ j, j < l → w.cell? (ad.add j) = some (.int .u64 (g j))

/-- A block that is known whole, as a row. -/
theorem row_of_block {w : World} {b n : Nat} {C : Array Value} {t : TypeId} {f : Nat → Int} (h : w.heap[b]? = some (.cells C t (0, 0))) (hL : ∀ i, i < n → C[i]? = some (.int .u64 (f i))) : Row w b n f := by
  constructor
  · intro i hi
    have := hL i hi
    simp [World.cell?, h, this]
  · intro i hi
    simp [World.frozen?, h]

/-- 'w := make([]uint64, n); copy(w, words)': a new row: the words, then zeros. -/
theorem make_copy (w : World) (n : Nat) (a : Option Addr) (l cap : Nat) (g : Nat → Int) (hl : l ≤ n) (hc : Came w a l g) :
    ∃ W, (Builtin.copy_ #[22, 22] 3 #[.slice (some ⟨w.heap.size, 0, none⟩) n n, .slice a l cap]).run Yba.prog (w.alloc (.cells (madeCells #[.int .u64 0] n) 23)) = .ok (.int .i64 l) W ∧
      Row W w.heap.size n (fun i => if i < l then g i else 0) ∧ Below w.heap.size w W ∧ W.heap.size = w.heap.size + 1 := by
  have hB : Below w.heap.size w (w.alloc (.cells (madeCells #[.int .u64 0] n) 23)) := (Below.refl _ _).alloc (Nat.le_refl _) _
  have hh : (w.alloc (.cells (madeCells #[.int .u64 0] n) 23)).heap[w.heap.size]? = some (.cells (madeCells #[.int .u64 0] n) 23 (0, 0)) :=
    (MapKept.heap_alloc w _).1
  by_cases h0 : l = 0
  · subst h0
    refine ⟨_, run_copy_none (P := Yba.prog) _ 22 22 3 23 _ a n n 0 cap Yba.underlying22 Yba.size23 (by simp), ?_, hB, by simp⟩
    exact row_of_block hh (fun i hi => by rw [made_at _ _ _ hi]; simp)
  · obtain ⟨ad, rfl, hcell⟩ := hc (by omega)
    have hlen : ((List.range l).map fun i => Value.int .u64 (g i)).length = Nat.min l n := by
      rw [List.length_map, List.length_range]; exact (Nat.min_eq_left hl).symm
    have e : goInt (((List.range l).map fun i => Value.int .u64 (g i)).length : Int) = .int .i64 l := by rw [List.length_map, List.length_range]; rfl
    refine ⟨_, (run_copy_row (P := Yba.prog) _ 22 22 3 23 w.heap.size 0 n n ad l cap _ 23 ((List.range l).map fun i => Value.int .u64 (g i)) Yba.underlying22 Yba.size23 hh hlen ?_ ?_ ?_).trans (congrArg (fun v => Result.ok v _) e), ?_, ?_, ?_⟩
    · intro j v hj
      have hjl : j < l := by
        rcases Nat.lt_or_ge j l with h | h
        · exact h
        · rw [List.getElem?_eq_none (by simpa using h)] at hj; cases hj
      simp [hjl] at hj
      subst hj
      have hlt := World.block_lt_of_cell? _ _ (hcell j hjl)
      exact (hB.cell hlt).trans (hcell j hjl)
    · simp [size_madeCells]; omega
    · intro v hv
      simp at hv
      obtain ⟨i, _, rfl⟩ := hv
      rfl
    · refine row_of_block (setRow_heap _ _ _ _ _ _ hh) (fun i hi => ?_)
      simp only [List.take_zero, List.nil_append, List.getElem?_toArray, Nat.zero_add, List.length_map, List.length_range]
      by_cases hil : i < l
      · rw [List.getElem?_append_left (by simpa using hil)]; simp [hil]
      · rw [List.getElem?_append_right (by simpa using hil)]
        simp [hil]
        have : l + (i - l) = i := by omega
        rw [this, made_at _ _ _ hi]
    · exact below_setRow hB (Nat.le_refl _) _
    · simp [World.setRow]

end Go.Proofs.Ybulkbkcu
