/- newObjectIndex and (*objectIndex).damagedFiles by their contracts. -/
import Derived.Test.YbulkbklkRows
import Derived.Test.YbulkbklkLocks
import Derived.Conc.RwLone
import Derived.Maps.OwnSet
import Derived.Maps.RangeWalk
import Derived.Sort.KeysCollected
import Derived.Sort.OwnSorted
import Derived.Maps.AppendAt
import Derived.WalkKit
import Derived.WalkSpells
import Derived.Lib.Hide
import Derived.Defers
namespace Go.Proofs.Ybulkbklk
open Go.RowKit Go.Maps Go.Sort Go.RwLone

theorem law9 : Keyed Yba.prog 9 := string_keyed Yba.underlying9
theorem Yba.info9 : (Yba.prog.info? 9).map (fun i => (i.zero, i.size, i.bytes)) = some (some (.string ⟨#[]⟩), 1, 16) := by kernel_rfl
/-- How an element reads here: not at all (the keys alone matter). -/
def anyE (_ : Value) : Option (DataW Unit × List MemPlace) := some (.nil, [])

/-- The struct's cells as newObjectIndex lays them. -/
def idxCells (dir : ByteArray) (b : Nat) : Array Value := #[.string dir, .int .i32 0, .int .u32 0, .int .u32 0, .int .u32 0, .int .i32 0, .int .i32 0, .map (some b), .map (some (b + 1)), .map (some (b + 1 + 1))]

set_option maxHeartbeats 400000 in
theorem new_any (dir : ByteArray) (w : World) :
    Calls Yba.prog 4 #[.string dir] w fun e w' => e = .returned (.pointer (some ⟨w.heap.size + 1 + 1 + 1, 0, none⟩)) ∧ w' = (((w.alloc (.map #[] 0)).alloc (.map #[] 0)).alloc (.map #[] 0)).alloc (.cells (idxCells dir w.heap.size) 42) := by
  have hmm := @run_makeMap Yba.prog
  go_enter Yba.func4, Yba.ntmps4
  go_wp2
  go_ret
  exact ⟨rfl, rfl⟩

/-! ### The lock -/
theorem rlock_X (X : Nat) (x0 x3 : Value) (w : World) (c0 : w.cell? ⟨X, 1, none⟩ = some x0) (c3 : w.cell? ⟨X, 4, none⟩ = some x3) (hc : w.cell? ⟨X, 5, none⟩ = some (.int .i32 0)) (hz : w.frozen? ⟨X, 5, none⟩ = false) :
    Calls Yba.prog 7 #[.pointer (some ⟨X, 1, none⟩)] w fun e w' => e = .returned (.tuple #[]) ∧ w' = w.setCell ⟨X, 5, none⟩ (.int .i32 1) := by
  have e : wrap32 (0 + 1) = 1 := by unfold wrap32; omega
  have h := rlock_open Yba.rwRLib X 1 0 x0 x3 w c0 c3 hc hz (by rw [e]; decide)
  rw [e] at h
  exact h
theorem runlock_X (X : Nat) (x0 x2 : Value) (u : FrameMode) (w : World) (c0 : w.cell? ⟨X, 1, none⟩ = some x0) (c2 : w.cell? ⟨X, 3, none⟩ = some x2) (hc : w.cell? ⟨X, 5, none⟩ = some (.int .i32 1)) (hz : w.frozen? ⟨X, 5, none⟩ = false) :
    CallsD Yba.prog 8 #[.pointer (some ⟨X, 1, none⟩)] u w fun e u' w' => u' = u ∧ (e = .returned (.tuple #[]) ∧ w' = w.setCell ⟨X, 5, none⟩ (.int .i32 0)) := by
  have e : wrap32 (1 + -1) = 0 := by unfold wrap32; omega
  have h := runlock_deferred Yba.rwRLib X 1 1 x0 x2 u w c0 c2 hc hz (by rw [e]; decide)
  rw [e] at h
  exact h

/-! ### damagedFiles -/
/-- sort.Strings over this program. -/
def SortOk : Prop := ∀ (blk off cap : Nat) (ss : List (List UInt8)) (w : World), Holds encStr w blk off ss.toArray → blk < w.heap.size → ss.length < 4611686018427387904 →
  Calls Yba.prog 9 #[.slice (some ⟨blk, off, none⟩) ss.length cap] w fun e w' => e = .returned (.tuple #[]) ∧ ∃ n os, w' = grow (putRow encStr (Sort.ahead w n) blk off (ss.mergeSort fun x y => decide (x ≤ y)).toArray) os
def SortNone : Prop := ∀ (p : Option Addr) (cap : Nat) (w : World), Calls Yba.prog 9 #[.slice p 0 cap] w fun e w' => e = .returned (.tuple #[]) ∧ w' = w

/-- All as it was, but that block X's cells may have been written and put back, and new blocks. -/
structure Stood (X : Nat) (w w' : World) : Prop where
  os : w'.os = w.os
  tape : w'.tape = w.tape
  output : w'.output = w.output
  size : w.heap.size ≤ w'.heap.size
  block : ∀ k, k < w.heap.size → k ≠ X → w'.heap[k]? = w.heap[k]?
  cells : ∀ i, w'.cell? ⟨X, i, none⟩ = w.cell? ⟨X, i, none⟩
  frozen : ∀ i, w'.frozen? ⟨X, i, none⟩ = w.frozen? ⟨X, i, none⟩

/-- From the lock's two stores to 'Stood'. -/
theorem stood_of {X : Nat} {w wf : World} (hX : X < w.heap.size) (hc : w.cell? ⟨X, 5, none⟩ = some (.int .i32 0)) (hb : Below w.heap.size (w.setCell ⟨X, 5, none⟩ (.int .i32 1)) wf) : Stood X w (wf.setCell ⟨X, 5, none⟩ (.int .i32 0)) := by
  have b1 := Below.setCell (Below.refl 0 w) (p := ⟨X, 5, none⟩) (Nat.zero_le _) (.int .i32 1)
  have b2 := Below.setCell (Below.refl 0 wf) (p := ⟨X, 5, none⟩) (Nat.zero_le _) (.int .i32 0)
  have hcell : ∀ i, wf.cell? ⟨X, i, none⟩ = (w.setCell ⟨X, 5, none⟩ (.int .i32 1)).cell? ⟨X, i, none⟩ := fun i => hb.cell (p := ⟨X, i, none⟩) hX
  refine ⟨b2.os.trans (hb.os.trans b1.os), b2.tape.trans (hb.tape.trans b1.tape), b2.output.trans (hb.output.trans b1.output), ?_, ?_, ?_, ?_⟩
  · have := hb.size
    simp at this ⊢
    exact this
  · intro k hk hne
    rw [Below.heap_setCell _ _ _ _ (by simpa using hne), hb.block k hk, Below.heap_setCell _ _ _ _ (by simpa using hne)]
  · intro i
    by_cases e : i = 5
    · subst e
      rw [hc]
      exact World.cell?_setCell_same _ _ _ ((hcell 5).trans (World.cell?_setCell_same _ _ _ hc))
    · rw [World.cell?_setCell_other _ _ _ _ (by simp only [ne_eq, Addr.mk.injEq]; omega), hcell, World.cell?_setCell_other _ _ _ _ (by simp only [ne_eq, Addr.mk.injEq]; omega)]
  · intro i
    rw [World.frozen?_setCell, hb.frozen (p := ⟨X, i, none⟩) hX, World.frozen?_setCell]

set_option maxRecDepth 100000 in
set_option maxHeartbeats 2000000 in
theorem damaged_any (hsort : SortOk) (hnone : SortNone) (X bm n : Nat) (D0 : DataW Unit) (x1 x3 x4 : Value) (w : World) (c1 : w.cell? ⟨X, 1, none⟩ = some x1) (c3 : w.cell? ⟨X, 3, none⟩ = some x3) (c4 : w.cell? ⟨X, 4, none⟩ = some x4)
    (c5 : w.cell? ⟨X, 5, none⟩ = some (.int .i32 0)) (z5 : w.frozen? ⟨X, 5, none⟩ = false) (c8 : w.cell? ⟨X, 8, none⟩ = some (.map (some bm))) (hbm : bm ≠ X) (hown : w.ownsMap Yba.prog 9 anyE bm n D0) (hsize : Maps.size D0 ≤ 1024) :
    Calls Yba.prog 5 #[.pointer (some ⟨X, 0, none⟩)] w fun e w' => ∃ (v : Value) (ss : List (List UInt8)), e = .returned v ∧ ss.Perm (strKeys D0) ∧ w'.ownsRow w.heap.size 9 1 v ss.length ((ss.mergeSort leB).map encStr) ∧ (ss = [] → v = .slice none 0 0) ∧ Stood X w w' := by
  obtain ⟨i0, hi, hz0, hz1, hz2⟩ := info_parts Yba.info9
  have hX : X < w.heap.size := World.block_lt_of_cell? _ _ c5
  have hbl := hown.lt
  have hown1 := hown.setCell (a := ⟨X, 5, none⟩) hbm (.int .i32 1)
  have c8' : (w.setCell ⟨X, 5, none⟩ (.int .i32 1)).cell? ⟨X, 8, none⟩ = some (.map (some bm)) := (World.cell?_setCell_other _ _ _ _ (by simp)).trans c8
  go_enter_defers Yba.func5, Yba.ntmps5
  go_wp2_with (first
    | (go_at_call 7; refine (rlock_X X x1 x4 _ c1 c4 c5 z5).mono ?_; rintro e w' ⟨rfl, rfl⟩)
    | (at_range; refine wpList_range_own _ rfl _ 39 rfl 9 4 law9 Yba.underlying39 _ bm n _ rfl hown1 ?_; intro w0 hrg0 hg0 hs0))
  go_frame
  have er : (w.setCell ⟨X, 5, none⟩ (.int .i32 1)).heap.size = w.heap.size := by simp
  rw [er] at hrg0 ⊢
  have hb0 : Below w.heap.size (w.setCell ⟨X, 5, none⟩ (.int .i32 1)) w0 := (Below.refl _ _).grown hg0 (by rw [er]; exact Nat.le_refl _) (fun j hj => by cases hj)
  clear hs0 hg0 hown1 c8'
  go_loopw [3] (fun v wr => ∃ (left : Lit → Bool) (cnt : Nat) (ss : List (List UInt8)), wr.ranges Yba.prog 9 anyE bm w.heap.size n D0 left cnt ∧ ss.length + cnt ≤ Maps.size D0 ∧
      wr.ownsRow w.heap.size 9 1 v ss.length (ss.map encStr) ∧ (ss = [] → v = .slice none 0 0) ∧ Collected D0 left ss ∧ Below w.heap.size (w.setCell ⟨X, 5, none⟩ (.int .i32 1)) wr)
    (fun _ wr => wr.rangeLeft bm w.heap.size)
  case atStart => exact ⟨_, _, [], hrg0, by simp, World.ownsRow_nil _ _ _ _, fun _ => rfl, Collected.start D0, hb0⟩
  case round =>
    obtain ⟨left, cnt, ss, hrg, hcs, hrow, hnn, hC, hnx⟩ := hrel
    clear hrg0 hb0
    go_wp2_with (first
      | (at_next; refine wpList_next_ranges _ rfl _ rfl 9 law9 anyE encStr (fun v : Value => v) (fun key kl hk => by obtain ⟨x, hx, _⟩ := Maps.keyOf_str Yba.underlying9 hk; exact ⟨x, hx⟩) (fun v y _ => ⟨v, rfl⟩) bm w.heap.size n _ _ _ rfl hrg ?_ ?_))
    · intro hc0 hl0
      have HP := Lib.hid (hC.perm hown law9 Yba.underlying9 hl0)
      clear hC hl0
      by_cases hss : ss = []
      · have hv := hnn hss
        have HB4 := Lib.hid hnx
        clear hnn hnx hrow hrg
        subst hss
        rw [hv]
        go_wp2_with (go_at_call 9; refine (hnone none 0 _).mono ?_; rintro e w' ⟨rfl, rfl⟩)
        refine leaves_cons (f := 8) (args := #[.pointer (some ⟨X, 1, none⟩)]) (by simp) (by simp [go_sem]) ?_
        refine (runlock_X X x1 x3 .returning _ ?_ ?_ ?_ ?_).mono ?_
        · exact (HB4.out.cell (p := ⟨X, 1, none⟩) hX).trans ((World.cell?_setCell_other _ _ _ _ (by simp)).trans c1)
        · exact (HB4.out.cell (p := ⟨X, 3, none⟩) hX).trans ((World.cell?_setCell_other _ _ _ _ (by simp)).trans c3)
        · exact (HB4.out.cell (p := ⟨X, 5, none⟩) hX).trans (World.cell?_setCell_same _ _ _ c5)
        · exact (HB4.out.frozen (p := ⟨X, 5, none⟩) hX).trans (by simpa using z5)
        rintro e u' w'' ⟨rfl, rfl, rfl⟩
        exact ⟨_, results_tmp rfl _ _ _, .slice none 0 0, [], rfl, HP.out, by simpa using World.ownsRow_nil _ _ _ _, fun _ => rfl, stood_of hX c5 HB4.out⟩
      · rcases hrow.2 with ⟨_, h0⟩ | ⟨gb, cap, cur, hv, hbase, hb, h1, h2, h3, h4⟩
        · exact absurd (List.eq_nil_of_length_eq_zero h0) hss
        have hH : Holds encStr wr gb 0 ss.toArray := holds_of_block hb (by simpa using h4)
        have hgl : gb < wr.heap.size := (Array.getElem?_eq_some_iff.1 hb).1
        have hc := hsort gb 0 cap ss wr hH hgl (by omega)
        have hc2 : Calls Yba.prog 9 #[.slice (some ⟨gb, 0, none⟩) ss.length cap] wr fun e w' => e = .returned (.tuple #[]) ∧ w'.ownsRow w.heap.size 9 1 (.slice (some ⟨gb, 0, none⟩) ss.length cap) ss.length ((ss.mergeSort leB).map encStr) ∧ Below w.heap.size (w.setCell ⟨X, 5, none⟩ (.int .i32 1)) w' :=
          hc.mono fun e w' ⟨he, nn, os, hw⟩ => ⟨he, by rw [hw]; exact ownsRow_sorted (by simp) hbase hb h1 h2 h3, by rw [hw]; exact hnx.grown (grownBy_sorted _) (by have := hnx.size; simpa using this) (fun j hj => by cases hj; exact hbase)⟩
        have HC := Lib.hid hc2
        clear hc hc2 hH hgl hrow hnx hrg hnn hb h1 h2 h3 h4 hbase
        rw [hv]
        go_wp2_with (go_at_call 9; refine HC.out.mono ?_; rintro e w4 ⟨rfl, hown4, hb4⟩; have HO4 := Lib.hid hown4; have HB4 := Lib.hid hb4; clear hown4 hb4)
        refine leaves_cons (f := 8) (args := #[.pointer (some ⟨X, 1, none⟩)]) (by simp) (by simp [go_sem]) ?_
        refine (runlock_X X x1 x3 .returning _ ?_ ?_ ?_ ?_).mono ?_
        · exact (HB4.out.cell (p := ⟨X, 1, none⟩) hX).trans ((World.cell?_setCell_other _ _ _ _ (by simp)).trans c1)
        · exact (HB4.out.cell (p := ⟨X, 3, none⟩) hX).trans ((World.cell?_setCell_other _ _ _ _ (by simp)).trans c3)
        · exact (HB4.out.cell (p := ⟨X, 5, none⟩) hX).trans (World.cell?_setCell_same _ _ _ c5)
        · exact (HB4.out.frozen (p := ⟨X, 5, none⟩) hX).trans (by simpa using z5)
        rintro e u' w'' ⟨rfl, rfl, rfl⟩
        exact ⟨_, results_tmp rfl _ _ _, _, ss, rfl, HP.out, ownsRow_setCell_below HO4.out hX _, fun h => absurd h hss, stood_of hX c5 HB4.out⟩
    · intro x c kl yd yp w2 cnt2 hkey hlk hv hat hrg2 hlt hg2 hs2 hen
      obtain ⟨x', ex, rfl, _⟩ := Maps.keyOf_str Yba.underlying9 hkey
      obtain rfl : x = x' := encStr_inj ex
      have hrow2 := hrow.kept hg2 (Or.inr (row_ne_iter hrow hrg).symm)
      clear hs2
      have hsx : w.heap.size ≤ w2.heap.size := by have h1 := hnx.size; have h2 := hg2.size; simp at h1; omega
      go_wp2_with (at_builtin; refine wpList_append_own _ rfl _ _ 22 rfl w.heap.size 9 i0 (.string ⟨#[]⟩) 1 16 Yba.underlying22 hi hz0 hz1 hz2 rfl (by decide) _ _ _ rfl (hrow2.alloc _) ⟨w2.heap.size, 0, none⟩ 1 1 [encStr x] rfl rfl (cell_one_new _ _ _) (by simp [Value.oneCell', encStr]) (by unfold maxLen at *; omega) (by omega) (by simp; omega) ?_; intro v' w3 hown' hg3 hnil3; go_frame)
      have hrg3 := (hrg2.alloc _).kept hg3 (row_ne_low hrow2 hbl) (row_ne_iter hrow2 hrg2)
      go_roundw
      case rel =>
        refine ⟨_, cnt2, ss ++ [x], hrg3, by simp; omega, by simpa using hown', fun h => by simp at h, hC.step hlk hat, ?_⟩
        exact ((hnx.grown hg2 (by have := hnx.size; simpa using this) (fun j hj => by cases hj; exact Nat.le_refl _)).alloc hsx _).grown hg3 (by simp; omega) (fun j hj => (hrow2.lt j hj).1)
      case measure => rw [hrg3.left_eq, hrg.left_eq]; exact hlt
end Go.Proofs.Ybulkbklk
