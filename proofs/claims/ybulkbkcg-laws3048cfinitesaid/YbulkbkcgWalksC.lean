/- The walks of keyRange, orderKey, integers, math.IsNaN, math.IsInf, and the two laws' own walks. -/
import Derived.Test.YbulkbkcgRows
import Derived.Test.YbulkbkcgPlain
import Derived.WalkKit
import Derived.WalkSpells
import Derived.WalkLawsBesides
import Derived.Laws.BitsAllLaws
namespace Go.Proofs.Ybulkbkcg
open Go.RowKit
theorem as_i (v : Value) (w : World) : (Instr.typeAssert (.iface 2 v) 20 2 true).run Yba.prog w = .ok (.tuple #[v, .bool true]) w := by kernel_rfl
theorem as_f (v : Value) (w : World) : (Instr.typeAssert (.iface 28 v) 20 2 true).run Yba.prog w = .ok (.tuple #[.int .i64 0, .bool false]) w := by kernel_rfl
theorem fbits (b : Nat) (w : World) : (callFunc 29 #[.float .f64 b]).run Yba.prog w = .ok (.value (.int .u64 b)) w := by kernel_rfl
theorem ffrom (b : Int) (w : World) : (callFunc 16 #[.int .u64 b]).run Yba.prog w = .ok (.value (.float .f64 b.toNat)) w := by kernel_rfl

/-- The key of a float by its bits, as the text reckons it. -/
def fkey (b : Nat) : Int := if ((b : Int) / 9223372036854775808 == 1) = true then bits .xor .u64 IntKind.u64.max b else bits .or .u64 b 9223372036854775808
def klo : Int := 4503599627370496
def khi : Int := 18442240474082181119
def kmax : Int := 18446744073709551615
def nanB (b : Nat) : Bool := FloatKind.f64.format.order b b != some Ordering.eq
def infB (b : Nat) : Bool := FloatKind.f64.format.order (bits .andNot .u64 (b : Int) 9223372036854775808).toNat 9218868437227405311 == some Ordering.gt
def ikey (n : Int) : Int := bits .xor .u64 (IntKind.u64.wrap n) 9223372036854775808

/-! ### The plain facts -/
theorem ret_int {k : IntKind} {a b : Int} (h : a = b) : Ending.returned (.int k a) = .returned (.int k b) := by rw [h]
theorem fkey_lo : fkey 18442240474082181119 = klo := by decide +kernel
theorem fkey_hi : fkey 9218868437227405311 = khi := by decide +kernel
theorem xor_ones (b : Nat) (h : b < 18446744073709551616) : 18446744073709551615 ^^^ b = 18446744073709551615 - b := by
  have e := BitVec.toNat_not (x := BitVec.ofNat 64 b)
  rw [BitVec.not_def, BitVec.toNat_xor, BitVec.toNat_allOnes, BitVec.toNat_ofNat, Nat.mod_eq_of_lt (by omega)] at e
  simpa using e
theorem or_top (b : Nat) (h : b < 9223372036854775808) : b ||| 9223372036854775808 = b + 9223372036854775808 := by
  rw [Nat.or_comm, nat_join 63 9223372036854775808 b (by decide) (by omega)]
  omega
theorem andNot_top (b : Nat) : b &&& (18446744073709551615 - 9223372036854775808) = b % 9223372036854775808 := by
  have := Nat.and_two_pow_sub_one_eq_mod b 63
  simpa using this
theorem fkey_eq (b : Nat) (h : b < 18446744073709551616) : fkey b = if 9223372036854775808 ≤ b then 18446744073709551615 - (b : Int) else (b : Int) + 9223372036854775808 := by
  unfold fkey
  by_cases hb : 9223372036854775808 ≤ b
  · have e : ((b : Int) / 9223372036854775808 == 1) = true := by
      rw [beq_iff_eq]; omega
    rw [if_pos e, if_pos hb]
    have hm : IntKind.u64.max = ((18446744073709551615 : Nat) : Int) := by decide +kernel
    rw [hm, u64_xor_nat _ _ (by omega) h, xor_ones b h]
    omega
  · have e : ¬ ((b : Int) / 9223372036854775808 == 1) = true := by
      rw [beq_iff_eq]; omega
    rw [if_neg e, if_neg hb]
    have e2 := u64_or_nat b 9223372036854775808 h (by omega)
    rw [or_top b (by omega)] at e2
    have e3 : ((9223372036854775808 : Nat) : Int) = 9223372036854775808 := rfl
    rw [e3] at e2
    rw [e2]
    omega
theorem nanB_eq (b : Nat) : nanB b = !decide (b % 9223372036854775808 ≤ 9218868437227405312) := by
  unfold nanB
  have := Plain.order_self b
  show (!(Ieee.double.order b b == some Ordering.eq)) = _
  rw [this]
theorem infB_eq (b : Nat) (h : b < 18446744073709551616) : infB b = decide (b % 9223372036854775808 = 9218868437227405312) := by
  unfold infB
  have e2 := u64_andNot_nat b 9223372036854775808 h (by omega)
  rw [andNot_top b] at e2
  have e3 : ((9223372036854775808 : Nat) : Int) = 9223372036854775808 := rfl
  rw [e3] at e2
  rw [e2, Int.toNat_natCast]
  exact Plain.order_max _ (by omega)
theorem law_in (b : Nat) (h : b < 18446744073709551616) (h1 : klo ≤ fkey b) (h2 : fkey b ≤ khi) : nanB b = false ∧ infB b = false := by
  rw [fkey_eq b h] at h1 h2
  unfold klo at h1
  unfold khi at h2
  rw [nanB_eq, infB_eq b h]
  simp
  split at h1 <;> omega
theorem law_out (b : Nat) (h : b < 18446744073709551616) (h1 : ¬ (klo ≤ fkey b ∧ fkey b ≤ khi)) (h2 : nanB b = false) : infB b = true := by
  rw [fkey_eq b h] at h1
  unfold klo khi at h1
  rw [nanB_eq] at h2
  rw [infB_eq b h]
  simp at h2 ⊢
  split at h1 <;> omega
theorem ikey_bd (n : Int) : 0 ≤ ikey n ∧ ikey n ≤ kmax := by
  unfold ikey kmax
  have hw : 0 ≤ IntKind.u64.wrap n ∧ IntKind.u64.wrap n < 18446744073709551616 := by rw [IntKind.wrap_u64]; omega
  rw [u64_xor _ _ hw.1 hw.2 (by omega) (by omega)]
  have := Nat.xor_lt_two_pow (x := (IntKind.u64.wrap n).toNat) (y := (9223372036854775808 : Int).toNat) (n := 64) (by omega) (by decide)
  omega

/-! ### The walks -/
set_option maxHeartbeats 400000 in
theorem ints_i64 (w : World) : Calls Yba.prog 27 #[] w fun e w' => e = .returned (.bool true) ∧ w' = w := by
  have h1 := as_i
  go_enter Yba.func27, Yba.ntmps27
  go_wp2
  go_ret
  exact ⟨rfl, rfl⟩
set_option maxHeartbeats 400000 in
theorem ints_f64 (w : World) : Calls Yba.prog 28 #[] w fun e w' => e = .returned (.bool false) ∧ w' = w := by
  have h1 := as_f
  go_enter Yba.func28, Yba.ntmps28
  go_wp2
  go_ret
  exact ⟨rfl, rfl⟩
set_option maxHeartbeats 400000 in
theorem range_i64 (w : World) : Calls Yba.prog 14 #[] w fun e w' => e = .returned (.tuple #[.int .u64 0, .int .u64 kmax]) ∧ w' = w := by
  go_enter Yba.func14, Yba.ntmps14
  go_wp2_with (go_at_call 27; refine (ints_i64 _).mono ?_; rintro e w' ⟨rfl, rfl⟩)
  go_ret2
  exact ⟨rfl, rfl⟩
set_option maxHeartbeats 400000 in
theorem key_i64 (n : Int) (w : World) : Calls Yba.prog 20 #[.int .i64 n] w fun e w' => e = .returned (.int .u64 (ikey n)) ∧ w' = w := by
  go_enter Yba.func20, Yba.ntmps20
  go_wp2_with (go_at_call 27; refine (ints_i64 _).mono ?_; rintro e w' ⟨rfl, rfl⟩)
  go_ret
  exact ⟨rfl, rfl⟩
set_option maxHeartbeats 400000 in
theorem key_f64 (b : Nat) (w : World) : Calls Yba.prog 17 #[.float .f64 b] w fun e w' => e = .returned (.int .u64 (fkey b)) ∧ w' = w := by
  have hf := fbits
  go_enter Yba.func17, Yba.ntmps17
  go_wp2_with (first | (go_at_call 28; refine (ints_f64 _).mono ?_; rintro e w' ⟨rfl, rfl⟩))
  · have h1 : ((b : Int) / 9223372036854775808 == 1) = true := by assumption
    go_ret
    exact ⟨ret_int (by unfold fkey; rw [if_pos h1]), rfl⟩
  · have h1 : ((b : Int) / 9223372036854775808 == 1) = false := by assumption
    go_ret
    exact ⟨ret_int (by unfold fkey; rw [if_neg (by rw [h1]; decide)]), rfl⟩
set_option maxHeartbeats 400000 in
theorem isnan (b : Nat) (w : World) : Calls Yba.prog 18 #[.float .f64 b] w fun e w' => e = .returned (.bool (nanB b)) ∧ w' = w := by
  go_enter Yba.func18, Yba.ntmps18
  go_wp2
  go_ret
  exact ⟨rfl, rfl⟩
set_option maxHeartbeats 400000 in
theorem isinf (b : Nat) (w : World) : Calls Yba.prog 19 #[.float .f64 b, .int .i64 0] w fun e w' => e = .returned (.bool (infB b)) ∧ w' = w := by
  have hf := fbits
  have hg := ffrom
  go_enter Yba.func19, Yba.ntmps19
  go_wp2
  go_ret
  exact ⟨rfl, rfl⟩
set_option maxHeartbeats 400000 in
theorem range_f64 (w : World) : Calls Yba.prog 15 #[] w fun e w' => e = .returned (.tuple #[.int .u64 klo, .int .u64 khi]) ∧ w' = w := by
  rw [← fkey_lo, ← fkey_hi]
  go_enter Yba.func15, Yba.ntmps15
  go_wp2_with (first | (go_at_call 28; refine (ints_f64 _).mono ?_; rintro e w' ⟨rfl, rfl⟩) | (go_at_call 17; refine (key_f64 _ _).mono ?_; rintro e w' ⟨rfl, rfl⟩))
  go_ret2
  exact ⟨rfl, rfl⟩

/-! ### The two laws -/
set_option maxHeartbeats 400000 in
theorem exact_walk (w : World) : Calls Yba.prog 5 #[] w fun e w' => e = .returned (.bool true) ∧ w' = w := by
  have h1 : (kmax != 18446744073709551615) = false := by decide
  have h2 : (klo == 4503599627370496) = true := by decide
  have h3 : (khi == 18442240474082181119) = true := by decide
  go_enter Yba.func5, Yba.ntmps5
  go_wp2_with (first | (go_at_call 14; refine (range_i64 _).mono ?_; rintro e w' ⟨rfl, rfl⟩) | (go_at_call 15; refine (range_f64 _).mono ?_; rintro e w' ⟨rfl, rfl⟩))
  go_ret
  exact ⟨rfl, rfl⟩
set_option maxHeartbeats 1000000 in
theorem finite_walk (a0 a1 : Int) (w0 : 0 ≤ a0 ∧ a0.toNat < 18446744073709551616) (w : World) : Calls Yba.prog 6 #[.int .u64 a0, .int .i64 a1] w fun e w' => e = .returned (.bool true) ∧ w' = w := by
  obtain ⟨b, hb⟩ : ∃ b, b = a0.toNat := ⟨_, rfl⟩
  have hf : ∀ w : World, (callFunc 16 #[.int .u64 a0]).run Yba.prog w = .ok (.value (.float .f64 b)) w := by rw [hb]; exact ffrom a0
  have hlt : b < 18446744073709551616 := by rw [hb]; exact w0.2
  have L1 := law_in b hlt
  have L2 := law_out b hlt
  obtain ⟨k0, k1⟩ := ikey_bd a1
  clear hb hlt w0
  by_cases h1 : klo ≤ fkey b
  · by_cases h2 : fkey b ≤ khi
    · obtain ⟨n1, n2⟩ := L1 h1 h2
      clear L1 L2
      go_enter Yba.func6, Yba.ntmps6
      go_wp2_with (first | (go_at_call 14; refine (range_i64 _).mono ?_; rintro e w' ⟨rfl, rfl⟩) | (go_at_call 15; refine (range_f64 _).mono ?_; rintro e w' ⟨rfl, rfl⟩) | (go_at_call 17; refine (key_f64 _ _).mono ?_; rintro e w' ⟨rfl, rfl⟩) | (go_at_call 18; refine (isnan _ _).mono ?_; rintro e w' ⟨rfl, rfl⟩) | (go_at_call 19; refine (isinf _ _).mono ?_; rintro e w' ⟨rfl, rfl⟩) | (go_at_call 20; refine (key_i64 _ _).mono ?_; rintro e w' ⟨rfl, rfl⟩))
      go_ret
      exact ⟨rfl, rfl⟩
    · have n2 := L2 (fun h => h2 h.2)
      clear L1 L2
      cases n1 : nanB b
      · have n3 := n2 n1
        clear n2
        go_enter Yba.func6, Yba.ntmps6
        go_wp2_with (first | (go_at_call 14; refine (range_i64 _).mono ?_; rintro e w' ⟨rfl, rfl⟩) | (go_at_call 15; refine (range_f64 _).mono ?_; rintro e w' ⟨rfl, rfl⟩) | (go_at_call 17; refine (key_f64 _ _).mono ?_; rintro e w' ⟨rfl, rfl⟩) | (go_at_call 18; refine (isnan _ _).mono ?_; rintro e w' ⟨rfl, rfl⟩) | (go_at_call 19; refine (isinf _ _).mono ?_; rintro e w' ⟨rfl, rfl⟩) | (go_at_call 20; refine (key_i64 _ _).mono ?_; rintro e w' ⟨rfl, rfl⟩))
        go_ret
        exact ⟨rfl, rfl⟩
      · clear n2
        go_enter Yba.func6, Yba.ntmps6
        go_wp2_with (first | (go_at_call 14; refine (range_i64 _).mono ?_; rintro e w' ⟨rfl, rfl⟩) | (go_at_call 15; refine (range_f64 _).mono ?_; rintro e w' ⟨rfl, rfl⟩) | (go_at_call 17; refine (key_f64 _ _).mono ?_; rintro e w' ⟨rfl, rfl⟩) | (go_at_call 18; refine (isnan _ _).mono ?_; rintro e w' ⟨rfl, rfl⟩) | (go_at_call 19; refine (isinf _ _).mono ?_; rintro e w' ⟨rfl, rfl⟩) | (go_at_call 20; refine (key_i64 _ _).mono ?_; rintro e w' ⟨rfl, rfl⟩))
        go_ret
        exact ⟨rfl, rfl⟩
  · have n2 := L2 (fun h => h1 h.1)
    clear L1 L2
    cases n1 : nanB b
    · have n3 := n2 n1
      clear n2
      go_enter Yba.func6, Yba.ntmps6
      go_wp2_with (first | (go_at_call 14; refine (range_i64 _).mono ?_; rintro e w' ⟨rfl, rfl⟩) | (go_at_call 15; refine (range_f64 _).mono ?_; rintro e w' ⟨rfl, rfl⟩) | (go_at_call 17; refine (key_f64 _ _).mono ?_; rintro e w' ⟨rfl, rfl⟩) | (go_at_call 18; refine (isnan _ _).mono ?_; rintro e w' ⟨rfl, rfl⟩) | (go_at_call 19; refine (isinf _ _).mono ?_; rintro e w' ⟨rfl, rfl⟩) | (go_at_call 20; refine (key_i64 _ _).mono ?_; rintro e w' ⟨rfl, rfl⟩))
      go_ret
      exact ⟨rfl, rfl⟩
    · clear n2
      go_enter Yba.func6, Yba.ntmps6
      go_wp2_with (first | (go_at_call 14; refine (range_i64 _).mono ?_; rintro e w' ⟨rfl, rfl⟩) | (go_at_call 15; refine (range_f64 _).mono ?_; rintro e w' ⟨rfl, rfl⟩) | (go_at_call 17; refine (key_f64 _ _).mono ?_; rintro e w' ⟨rfl, rfl⟩) | (go_at_call 18; refine (isnan _ _).mono ?_; rintro e w' ⟨rfl, rfl⟩) | (go_at_call 19; refine (isinf _ _).mono ?_; rintro e w' ⟨rfl, rfl⟩) | (go_at_call 20; refine (key_i64 _ _).mono ?_; rintro e w' ⟨rfl, rfl⟩))
      go_ret
      exact ⟨rfl, rfl⟩
end Go.Proofs.Ybulkbkcg
