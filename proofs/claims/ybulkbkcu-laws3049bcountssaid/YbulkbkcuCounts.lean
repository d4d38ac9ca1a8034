/- The walk of LawS3049BCounts. -/
import Derived.Test.YbulkbkcuInc
namespace Go.Proofs.Ybulkbkcu
open Go.RowKit

/-! ### Plain: a number below 2^64 + 65536 as two words and their count -/
def pr (x : Int) (i : Nat) : Int := if i = 0 then x % 18446744073709551616 else x / 18446744073709551616
def cnt (x : Int) : Nat := if 18446744073709551616 ≤ x then 2 else if x = 0 then 0 else 1
theorem cnt_le (x : Int) : cnt x ≤ 2 := by unfold cnt; split <;> (try split) <;> omega
theorem step_plain (x : Int) (h0 : 0 ≤ x) (h1 : x < 18446744073709551616 + 65536) :
    ∃ j, j ≤ cnt x ∧ (∀ i, i < j → pr x i = wmax) ∧ (j < cnt x → Word (pr x j) ∧ pr x j ≠ wmax) ∧ j < 2 ∧ (∀ i, i < 2 → pr (x + 1) i = incd (pr x) j (cnt x) i) ∧ (if j < cnt x then (cnt x : Int) else cnt x + 1) = cnt (x + 1) := by
  by_cases hb : 18446744073709551616 ≤ x
  · have hc : cnt x = 2 := by simp [cnt, hb]
    refine ⟨0, Nat.zero_le _, fun i hi => absurd hi (Nat.not_lt_zero _), ?_, by omega, ?_, ?_⟩
    · intro _; constructor
      · simp [pr, Word]; omega
      · simp [pr, wmax]; omega
    · intro i hi
      match i, hi with
      | 0, _ => simp [pr, incd, hc]; omega
      | 1, _ => simp [pr, incd]; omega
    · have : 18446744073709551616 ≤ x + 1 := by omega
      simp [hc]
      simp [cnt, this]
  · by_cases hz : x = 0
    · subst hz
      refine ⟨0, Nat.zero_le _, fun i hi => absurd hi (Nat.not_lt_zero _), ?_, by decide, ?_, by decide⟩
      · intro h; exact absurd h (by decide)
      · intro i hi
        match i, hi with
        | 0, _ => decide
        | 1, _ => decide
    · have hc : cnt x = 1 := by simp [cnt, hb, hz]
      by_cases hm : x = 18446744073709551615
      · subst hm
        refine ⟨1, by decide, ?_, ?_, by decide, ?_, by decide⟩
        · intro i hi
          have : i = 0 := by omega
          subst this; decide
        · intro h; exact absurd h (by decide)
        · intro i hi
          match i, hi with
          | 0, _ => decide
          | 1, _ => decide
      · refine ⟨0, Nat.zero_le _, fun i hi => absurd hi (Nat.not_lt_zero _), ?_, by omega, ?_, ?_⟩
        · intro _; constructor
          · simp [pr, Word]; omega
          · simp [pr, wmax]; omega
        · intro i hi
          match i, hi with
          | 0, _ => simp [pr, incd, hc]; omega
          | 1, _ => simp [pr, incd]; omega
        · have e1 : ¬ 18446744073709551616 ≤ x + 1 := by omega
          have e2 : ¬ x + 1 = 0 := by omega
          simp [hc]
          simp [cnt, e1, e2]

/-- inc at such a number. -/
theorem inc_pr (b z : Nat) (x : Int) (w : World) (h0 : 0 ≤ x) (h1 : x < 18446744073709551616 + 65536) (hbz : b ≠ z)
    (hr : Row w b 2 (pr x)) (c0 : w.cell? ⟨z, 0, none⟩ = some (.slice (some ⟨b, 0, none⟩) 2 2)) (c1 : w.cell? ⟨z, 1, none⟩ = some (.int .i64 (cnt x))) (f1 : w.frozen? ⟨z, 1, none⟩ = false) :
    Calls Yba.prog 5 #[.pointer (some ⟨z, 0, none⟩)] w fun e w' => e = .returned (.tuple #[]) ∧ Row w' b 2 (pr (x + 1)) ∧ w'.cell? ⟨z, 0, none⟩ = some (.slice (some ⟨b, 0, none⟩) 2 2) ∧
      w'.cell? ⟨z, 1, none⟩ = some (.int .i64 (cnt (x + 1))) ∧ w'.frozen? ⟨z, 1, none⟩ = false ∧ But b z w w' := by
  obtain ⟨j, hj, hl, ht, h2, hp, hc⟩ := step_plain x h0 h1
  refine (inc_any b z 2 j (cnt x) (pr x) w (by omega) (cnt_le x) h2 hj hl ht hbz hr c0 c1 f1).mono ?_
  rintro e w' ⟨he, hr', g0, g1, gf, hb⟩
  exact ⟨he, hr'.congr hp, g0, by rw [g1, hc], gf, hb⟩

theorem add64 (x y : Int) (w : World) : (callFunc 6 #[.int .u64 x, .int .u64 y, .int .u64 0]).run Yba.prog w = .ok (.value (.tuple #[.int .u64 (((x.toNat + y.toNat + 0) % 2 ^ 64 : Nat) : Int), .int .u64 (((x.toNat + y.toNat + 0) / 2 ^ 64 : Nat) : Int)])) w := by
  kernel_rfl
theorem add64_pr (x y : Int) (hx : 0 ≤ x) (hy : 0 ≤ y) (w : World) : (callFunc 6 #[.int .u64 x, .int .u64 y, .int .u64 0]).run Yba.prog w = .ok (.value (.tuple #[.int .u64 (pr (x + y) 0), .int .u64 (pr (x + y) 1)])) w := by
  rw [add64]
  have e1 : (((x.toNat + y.toNat + 0) % 2 ^ 64 : Nat) : Int) = pr (x + y) 0 := by simp only [pr, if_true]; omega
  have e2 : (((x.toNat + y.toNat + 0) / 2 ^ 64 : Nat) : Int) = pr (x + y) 1 := by
    have : pr (x + y) 1 = (x + y) / 18446744073709551616 := rfl
    rw [this]; omega
  rw [e1, e2]

/-- The two starts. -/
theorem start_row (a : Int) (ha : Word a) (o : Obj) (w : World) : Row ((w.alloc (.cells #[.int .u64 a, .int .u64 0] 28)).alloc o) w.heap.size 2 (pr (a + ((0 : Nat) : Int))) := by
  obtain ⟨a0, a1⟩ := ha
  have e0 : pr (a + ((0 : Nat) : Int)) 0 = a := by simp only [pr, if_true]; omega
  have e1 : pr (a + ((0 : Nat) : Int)) 1 = 0 := by
    show (a + ((0 : Nat) : Int)) / 18446744073709551616 = 0
    omega
  constructor
  · intro i hi
    match i, hi with
    | 0, _ => rw [e0]; simp
    | 1, _ => rw [e1]; simp
  · intro i hi
    match i, hi with
    | 0, _ => simp
    | 1, _ => simp
theorem start_cnt (a : Int) (ha : Word a) : cnt (a + ((0 : Nat) : Int)) = if (a != 0) = true then 1 else 0 := by
  obtain ⟨a0, a1⟩ := ha
  have e : ¬ 18446744073709551616 ≤ a + ((0 : Nat) : Int) := by omega
  unfold cnt
  rw [if_neg e]
  by_cases h : a = 0
  · subst h; simp
  · have : ¬ a + ((0 : Nat) : Int) = 0 := by omega
    rw [if_neg this, if_pos (by simpa using h)]
/-- What the law asks at the end, by the three ways. -/
theorem end_plain (x : Int) (h0 : 0 ≤ x) : (pr x 1 != 0) = true ∧ cnt x = 2 ∨ (pr x 1 != 0) = false ∧ (pr x 0 != 0) = true ∧ cnt x = 1 ∨ (pr x 1 != 0) = false ∧ (pr x 0 != 0) = false ∧ cnt x = 0 := by
  have p1 : pr x 1 = x / 18446744073709551616 := rfl
  have p0 : pr x 0 = x % 18446744073709551616 := rfl
  rw [p1, p0]
  unfold cnt
  by_cases hb : 18446744073709551616 ≤ x
  · rw [if_pos hb]; left; constructor
    · simp; omega
    · rfl
  · rw [if_neg hb]
    by_cases hz : x = 0
    · subst hz; right; right; decide
    · rw [if_neg hz]; right; left; refine ⟨?_, ?_, rfl⟩
      · simp; omega
      · simp; omega

set_option maxHeartbeats 1000000 in
theorem counts_walk (a c : Int) (ha : Word a) (hc0 : 0 ≤ c) (hc1 : c ≤ 65535) (w : World) :
    Calls Yba.prog 4 #[.int .u64 a, .int .u16 c] w fun e w' => e = .returned (.bool true) ∧ Below w.heap.size w w' := by
  have HA : Hid (Word a) := ha
  have HC := start_cnt a ha
  have HE := end_plain (a + c) (by have := ha.1; omega)
  have hadd := fun w => add64_pr a c ha.1 hc0 w
  obtain ⟨lo, hlo⟩ : ∃ lo, lo = pr (a + c) 0 := ⟨_, rfl⟩
  obtain ⟨hi, hhi⟩ : ∃ hi, hi = pr (a + c) 1 := ⟨_, rfl⟩
  rw [← hlo, ← hhi] at HE hadd
  have HHI : Hid (hi = pr (a + c) 1) := hhi
  have HLO : Hid (lo = pr (a + c) 0) := hlo
  have HEE : Hid ((hi != 0) = true ∧ cnt (a + c) = 2 ∨ (hi != 0) = false ∧ (lo != 0) = true ∧ cnt (a + c) = 1 ∨ (hi != 0) = false ∧ (lo != 0) = false ∧ cnt (a + c) = 0) := HE
  have HCC : Hid (cnt (a + ((0 : Nat) : Int)) = if (a != 0) = true then 1 else 0) := HC
  clear ha HC HE hlo hhi
  rcases Bool.eq_false_or_eq_true (a != 0) with ha0 | ha0
  all_goals
    go_enter Yba.func4, Yba.ntmps4
    go_wp2
    go_loopw [8] (fun i wr => ∃ k : Nat, (k : Int) ≤ c ∧ i = .int .i64 k ∧ Row wr w.heap.size 2 (pr (a + k)) ∧ wr.cell? ⟨w.heap.size + 1, 0, none⟩ = some (.slice (some ⟨w.heap.size, 0, none⟩) 2 2) ∧
        wr.cell? ⟨w.heap.size + 1, 1, none⟩ = some (.int .i64 (cnt (a + k))) ∧ wr.frozen? ⟨w.heap.size + 1, 1, none⟩ = false ∧ Below w.heap.size w wr)
      (fun i _ => c.toNat - (intOf i).toNat)
    case atStart =>
      refine ⟨0, hc0, rfl, start_row a HA.out _ w, by simp, ?_, by simp, ((Below.refl _ _).alloc (Nat.le_refl _) _).alloc (by simp) _⟩
      rw [HCC.out, ha0]; simp
    case round =>
      obtain ⟨k, hk, rfl, hrow, g0, g1, gf, hbel⟩ := hrel
      have HRow : Hid (Row wr w.heap.size 2 (pr (a + k))) := hrow
      have HBel : Hid (Below w.heap.size w wr) := hbel
      by_cases hkc : (k : Int) < c
      · clear hrow hbel HEE HHI HLO HCC
        go_wp2_with (go_at_call 5; refine (inc_pr w.heap.size (w.heap.size + 1) (a + k) wr (by have := HA.out.1; omega) (by have := HA.out.2; omega) (by omega) HRow.out g0 g1 gf).mono ?_; rintro e w1 ⟨rfl, r1, q0, q1, qf, hb1⟩)
        have e : a + ((k + 1 : Nat) : Int) = a + k + 1 := by omega
        go_roundw
        case rel =>
          refine ⟨k + 1, by omega, by go_num, ?_, q0, ?_, qf, HBel.out.trans (hb1.below (Nat.le_refl _) (by omega))⟩
          · rw [e]; exact r1
          · rw [e]; exact q1
        case measure => simp [intOf]; omega
      · have e : (k : Int) = c := by omega
        have c0 : wr.cell? ⟨w.heap.size, 0, none⟩ = some (.int .u64 lo) := by rw [HLO.out, ← e]; exact hrow.cell 0 (by omega)
        have c1 : wr.cell? ⟨w.heap.size, 1, none⟩ = some (.int .u64 hi) := by rw [HHI.out, ← e]; exact hrow.cell 1 (by omega)
        rw [e] at g1
        have hkc' : c ≤ (k : Int) := by omega
        clear hrow hbel HRow HHI HLO HCC e hkc
        rcases HEE.out with ⟨b1, b2⟩ | ⟨b1, b2, b3⟩ | ⟨b1, b2, b3⟩
        · rw [b2] at g1
          clear HEE b2
          go_wp2
          go_ret
          exact ⟨rfl, HBel.out⟩
        · rw [b3] at g1
          clear HEE b3
          go_wp2
          go_ret
          exact ⟨rfl, HBel.out⟩
        · rw [b3] at g1
          clear HEE b3
          go_wp2
          go_ret
          exact ⟨rfl, HBel.out⟩
end Go.Proofs.Ybulkbkcu
