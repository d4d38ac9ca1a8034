/- Plain facts on the doubles' words: no Go in sight. -/
import Ieee.Arith
namespace Go.Proofs.Ybulkbkcg.Plain
open Ieee

theorem dSign : Ieee.double.signWeight = 9223372036854775808 := by decide
theorem dBin : Ieee.double.binade = 4503599627370496 := by decide
theorem dInf : Ieee.double.infRung = 9218868437227405312 := by decide
theorem dLeast : Ieee.double.leastPlace = -1074 := by decide

theorem order_refl_num (s : Bool) (m : Nat) (i : Int) : (Datum.number s m i).order (Datum.number s m i) = some .eq := by
  simp [Datum.order]
theorem order_refl_inf (s : Bool) : (Datum.infinity s).order (Datum.infinity s) = some .eq := by
  simp [Datum.order]

/-- A word against itself: equal, but for a NaN. -/
theorem order_self (n : Nat) : (Ieee.double.order n n == some .eq) = decide (n % 9223372036854775808 ≤ 9218868437227405312) := by
  unfold Format.order Format.read
  simp only [dSign, dBin, dInf, dLeast]
  split
  · rw [order_refl_num]; simp; omega
  split
  · rw [order_refl_num]; simp; omega
  split
  · rw [order_refl_inf]; simp; omega
  · simp [Datum.order]; omega

/-- A small number is not above the greatest. -/
theorem not_above (m : Nat) (i : Int) (hm : m ≤ 9007199254740991) (hi : i ≤ 971) : ((Datum.number false m i).order (.number false 9007199254740991 971) == some .gt) = false := by
  have hb : min i 971 = i := by omega
  simp only [Datum.order, hb, signed]
  have h0 : (i - i).toNat = 0 := by omega
  rw [h0]
  have hle : m <<< 0 ≤ 9007199254740991 <<< (971 - i).toNat := by
    rw [Nat.shiftLeft_eq, Nat.shiftLeft_eq]
    calc m * 2 ^ 0 = m * 1 := by simp
      _ ≤ 9007199254740991 * 2 ^ (971 - i).toNat := Nat.mul_le_mul hm (Nat.two_pow_pos _)
  have hle' : ((m <<< 0 : Nat) : Int) ≤ ((9007199254740991 <<< (971 - i).toNat : Nat) : Int) := Int.ofNat_le.2 hle
  have hc : compare ((m <<< 0 : Nat) : Int) ((9007199254740991 <<< (971 - i).toNat : Nat) : Int) ≠ .gt := by
    intro h
    have := Int.compare_eq_gt.1 h
    omega
  simpa using hc

/-- A word without sign against the greatest number: greater at infinity alone. -/
theorem order_max (n : Nat) (h : n < 9223372036854775808) : (Ieee.double.order n 9218868437227405311 == some .gt) = decide (n = 9218868437227405312) := by
  have hm : Ieee.double.read 9218868437227405311 = .number false 9007199254740991 971 := by decide
  unfold Format.order
  rw [hm]
  unfold Format.read
  simp only [dSign, dBin, dInf, dLeast]
  have hs : (n / 9223372036854775808 % 2 == 1) = false := by
    rw [Nat.div_eq_of_lt h]; decide
  rw [hs, Nat.mod_eq_of_lt h]
  split
  · rw [not_above _ _ (by omega) (by omega)]; simp; omega
  split
  · rw [not_above _ _ (by omega) (by omega)]; simp; omega
  split
  · simp [Datum.order]; assumption
  · simp [Datum.order]; assumption
end Go.Proofs.Ybulkbkcg.Plain
