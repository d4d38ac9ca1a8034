/- The walk of zzs3049amodel at a sign and digits. -/
import Derived.Test.YbulkbkcuDoorRows
import Derived.Test.YbulkbkcuDoorPlain
import Derived.WalkKit
import Derived.WalkSpells
import Derived.WalkLawsBesides
import Derived.Lib.Hide
namespace Go.Proofs.YbulkbkcuDoor
open Go.RowKit

/-- What the model's loop holds: the number of the digits read so far, or 'too great'. -/
def Inv (a : Int) (sb : Bool) (v : Nat) : Prop := (sb = false ∧ a = (v : Int) ∧ v ≤ 9223372036854775808) ∨ (sb = true ∧ 9223372036854775808 < v)

/-- The bytes of s from st on are digits; V: what they spell. -/
structure Spells (s : ByteArray) (st : Nat) (V : Nat → Nat) : Prop where
  zero : V st = 0
  dig : ∀ m (h : m < s.size), st ≤ m → 48 ≤ s[m].toNat ∧ s[m].toNat ≤ 57
  step : ∀ m (h : m < s.size), st ≤ m → V (m + 1) = V m * 10 + (s[m].toNat - 48)

/-! ### Plain steps -/
theorem inv_sat {a : Int} {v d : Nat} (h : Inv a true v) : Inv a true (v * 10 + d) := by
  rcases h with ⟨h, _⟩ | ⟨_, h⟩
  · cases h
  · right; exact ⟨rfl, by omega⟩
theorem inv_great {a : Int} {v d : Nat} (h : Inv a false v) (hg : 1152921504606846976 ≤ a) : Inv a true (v * 10 + d) := by
  rcases h with ⟨_, h, _⟩ | ⟨h, _⟩
  · right; exact ⟨rfl, by omega⟩
  · cases h
theorem inv_over {a : Int} {v d : Nat} (h : Inv a false v) (hg : 9223372036854775808 < a * 10 + (d : Int)) : Inv (a * 10 + (d : Int)) true (v * 10 + d) := by
  rcases h with ⟨_, h, _⟩ | ⟨h, _⟩
  · right; exact ⟨rfl, by omega⟩
  · cases h
theorem inv_in {a : Int} {v d : Nat} (h : Inv a false v) (hg : a * 10 + (d : Int) ≤ 9223372036854775808) : Inv (a * 10 + (d : Int)) false (v * 10 + d) := by
  rcases h with ⟨_, h, _⟩ | ⟨h, _⟩
  · left; exact ⟨rfl, by omega, by omega⟩
  · cases h
theorem inv_bd {a : Int} {v : Nat} (h : Inv a false v) : 0 ≤ a ∧ a ≤ 9223372036854775808 := by
  rcases h with ⟨_, h, _⟩ | ⟨h, _⟩
  · omega
  · cases h
theorem want_sat_neg {a : Int} {v : Nat} (h : Inv a true v) : Plain.want true v = -9223372036854775808 := by
  rcases h with ⟨h, _⟩ | ⟨_, h⟩
  · cases h
  · unfold Plain.want; simp; omega
theorem want_top_neg {a : Int} {v : Nat} (h : Inv a false v) (ha : a = 9223372036854775808) : Plain.want true v = -9223372036854775808 := by
  rcases h with ⟨_, h, _⟩ | ⟨h, _⟩
  · unfold Plain.want; simp; omega
  · cases h
theorem want_low_neg {a : Int} {v : Nat} (h : Inv a false v) (ha : a < 9223372036854775808) : Plain.want true v = -a := by
  rcases h with ⟨_, h, _⟩ | ⟨h, _⟩
  · unfold Plain.want; simp; omega
  · cases h
theorem want_sat_pos {a : Int} {v : Nat} (h : Inv a true v) : Plain.want false v = 9223372036854775807 := by
  rcases h with ⟨h, _⟩ | ⟨_, h⟩
  · cases h
  · unfold Plain.want; simp; omega
theorem want_top_pos {a : Int} {v : Nat} (h : Inv a false v) (ha : 9223372036854775807 < a) : Plain.want false v = 9223372036854775807 := by
  rcases h with ⟨_, h, _⟩ | ⟨h, _⟩
  · unfold Plain.want; simp; omega
  · cases h
theorem want_low_pos {a : Int} {v : Nat} (h : Inv a false v) (ha : a ≤ 9223372036854775807) : Plain.want false v = a := by
  rcases h with ⟨_, h, _⟩ | ⟨h, _⟩
  · unfold Plain.want; simp; omega
  · cases h
theorem ret_pair {k : IntKind} {a b : Int} {x : Value} (h : a = b) : Ending.returned (.tuple #[.int k a, x]) = .returned (.tuple #[.int k b, x]) := by rw [h]

set_option maxHeartbeats 1000000 in
/-- A minus, then digits. -/
theorem model_neg (s : ByteArray) (V : Nat → Nat) (hS : Spells s 1 V) (hsz : s.size ≤ 2000) (h1 : 1 < s.size) (h0 : s[0] = 45) (w : World) :
    Calls Ybad.prog 7 #[.string s] w fun e w' => e = .returned (.tuple #[.int .i64 (Plain.want true (V s.size)), .bool true]) ∧ w' = w := by
  have p0 : 0 < s.size := by omega
  have q0 : (0 : Int) < (s.size : Int) := by omega
  have hd0 : (((s[0]'p0).toNat : Nat) : Int) = 45 := by rw [h0]; rfl
  clear h0
  have HS := Lib.hid hS
  clear hS
  obtain ⟨wa, HWA⟩ : ∃ wa : Int, Hid (wa = Plain.want true (V s.size)) := ⟨_, rfl⟩
  have HWB := HWA.out
  rw [← HWB]
  clear HWB
  go_enter Ybad.func7, Ybad.ntmps7
  go_wp2
  go_loop [4, 6, 7] (fun i mg st => ∃ (m : Nat) (a : Int) (sb : Bool), 1 ≤ m ∧ m ≤ s.size ∧ i = .int .i64 m ∧ mg = .int .u64 a ∧ st = .bool sb ∧ Hid (Inv a sb (V m))) (fun i _ _ => s.size - (intOf i).toNat)
  case atStart => exact ⟨1, 0, false, Nat.le_refl _, by omega, rfl, rfl, rfl, .inl ⟨rfl, by rw [HS.out.zero]; rfl, by rw [HS.out.zero]; omega⟩⟩
  case round =>
    obtain ⟨m, a, sb, hm1, hm2, rfl, rfl, rfl, HI⟩ := hrel
    by_cases hlt : m < s.size
    · obtain ⟨d, hd⟩ : ∃ d : Nat, d = (s[m]'hlt).toNat - 48 := ⟨_, rfl⟩
      have hdg := HS.out.dig m hlt hm1
      have hst := HS.out.step m hlt hm1
      rw [← hd] at hst
      have HST := Lib.hid hst
      obtain ⟨c, hcc⟩ : ∃ c : Int, (((s[m]'hlt).toNat : Nat) : Int) = c := ⟨_, rfl⟩
      have hc1 : 48 ≤ c := by omega
      have hc2 : c ≤ 57 := by omega
      have HD : Hid (c - 48 = (d : Int)) := by show c - 48 = (d : Int); omega
      clear hdg hst hd HS HWA 
      cases sb with
      | true =>
        go_wp2
        go_round
        case rel => exact ⟨m + 1, a, true, by omega, by omega, by go_num, rfl, rfl, by rw [HST.out]; exact inv_sat HI.out⟩
        case measure => simp [intOf]; omega
      | false =>
        have hbd := inv_bd HI.out
        obtain ⟨ha0, ha1⟩ := hbd
        by_cases hg : 1152921504606846976 ≤ a
        · go_wp2
          go_round
          case rel => exact ⟨m + 1, a, true, by omega, by omega, by go_num, rfl, rfl, by rw [HST.out]; exact inv_great HI.out hg⟩
          case measure => simp [intOf]; omega
        · by_cases ho : 9223372036854775808 < a * 10 + (c - 48)
          · go_wp2
            go_round
            case rel => exact ⟨m + 1, a * 10 + (d : Int), true, by omega, by omega, by go_num, by rw [← HD.out], rfl, by rw [HST.out]; exact inv_over HI.out (by rw [← HD.out]; exact ho)⟩
            case measure => simp [intOf]; omega
          · go_wp2
            go_round
            case rel => exact ⟨m + 1, a * 10 + (d : Int), false, by omega, by omega, by go_num, by rw [← HD.out], rfl, by rw [HST.out]; exact inv_in HI.out (by rw [← HD.out]; omega)⟩
            case measure => simp [intOf]; omega
    · have hm : m = s.size := by omega
      have HI2 : Hid (Inv a sb (V s.size)) := by rw [← hm]; exact HI
      clear HI hm HS
      cases sb with
      | true =>
        have HW : Hid (wa = -9223372036854775808) := by rw [HWA.out]; exact want_sat_neg HI2.out
        clear HWA HI2
        go_wp2
        go_ret2
        exact ⟨ret_pair HW.out.symm, rfl⟩
      | false =>
        have hbd := inv_bd HI2.out
        obtain ⟨ha0, ha1⟩ := hbd
        by_cases he : a = 9223372036854775808
        · have HW : Hid (wa = -9223372036854775808) := by rw [HWA.out]; exact want_top_neg HI2.out he
          have hb : (a == 9223372036854775808) = true := by simpa using he
          clear HWA HI2 he
          go_wp2
          go_ret2
          exact ⟨ret_pair HW.out.symm, rfl⟩
        · have HW : Hid (wa = -a) := by rw [HWA.out]; exact want_low_neg HI2.out (by omega)
          have hb : (a == 9223372036854775808) = false := by simpa using he
          have hl : a < 9223372036854775808 := by omega
          clear HWA HI2 he
          go_wp2
          go_ret2
          exact ⟨ret_pair HW.out.symm, rfl⟩

set_option maxHeartbeats 1000000 in
/-- A plus, then digits. -/
theorem model_plus (s : ByteArray) (V : Nat → Nat) (hS : Spells s 1 V) (hsz : s.size ≤ 2000) (h1 : 1 < s.size) (h0 : s[0] = 43) (w : World) :
    Calls Ybad.prog 7 #[.string s] w fun e w' => e = .returned (.tuple #[.int .i64 (Plain.want false (V s.size)), .bool true]) ∧ w' = w := by
  have p0 : 0 < s.size := by omega
  have q0 : (0 : Int) < (s.size : Int) := by omega
  have hd0 : (((s[0]'p0).toNat : Nat) : Int) = 43 := by rw [h0]; rfl
  clear h0
  have HS := Lib.hid hS
  clear hS
  obtain ⟨wa, HWA⟩ : ∃ wa : Int, Hid (wa = Plain.want false (V s.size)) := ⟨_, rfl⟩
  have HWB := HWA.out
  rw [← HWB]
  clear HWB
  go_enter Ybad.func7, Ybad.ntmps7
  go_wp2
  go_loop [4, 6, 7] (fun i mg st => ∃ (m : Nat) (a : Int) (sb : Bool), 1 ≤ m ∧ m ≤ s.size ∧ i = .int .i64 m ∧ mg = .int .u64 a ∧ st = .bool sb ∧ Hid (Inv a sb (V m))) (fun i _ _ => s.size - (intOf i).toNat)
  case atStart => exact ⟨1, 0, false, Nat.le_refl _, by omega, rfl, rfl, rfl, .inl ⟨rfl, by rw [HS.out.zero]; rfl, by rw [HS.out.zero]; omega⟩⟩
  case round =>
    obtain ⟨m, a, sb, hm1, hm2, rfl, rfl, rfl, HI⟩ := hrel
    by_cases hlt : m < s.size
    · obtain ⟨d, hd⟩ : ∃ d : Nat, d = (s[m]'hlt).toNat - 48 := ⟨_, rfl⟩
      have hdg := HS.out.dig m hlt hm1
      have hst := HS.out.step m hlt hm1
      rw [← hd] at hst
      have HST := Lib.hid hst
      obtain ⟨c, hcc⟩ : ∃ c : Int, (((s[m]'hlt).toNat : Nat) : Int) = c := ⟨_, rfl⟩
      have hc1 : 48 ≤ c := by omega
      have hc2 : c ≤ 57 := by omega
      have HD : Hid (c - 48 = (d : Int)) := by show c - 48 = (d : Int); omega
      clear hdg hst hd HS HWA 
      cases sb with
      | true =>
        go_wp2
        go_round
        case rel => exact ⟨m + 1, a, true, by omega, by omega, by go_num, rfl, rfl, by rw [HST.out]; exact inv_sat HI.out⟩
        case measure => simp [intOf]; omega
      | false =>
        have hbd := inv_bd HI.out
        obtain ⟨ha0, ha1⟩ := hbd
        by_cases hg : 1152921504606846976 ≤ a
        · go_wp2
          go_round
          case rel => exact ⟨m + 1, a, true, by omega, by omega, by go_num, rfl, rfl, by rw [HST.out]; exact inv_great HI.out hg⟩
          case measure => simp [intOf]; omega
        · by_cases ho : 9223372036854775808 < a * 10 + (c - 48)
          · go_wp2
            go_round
            case rel => exact ⟨m + 1, a * 10 + (d : Int), true, by omega, by omega, by go_num, by rw [← HD.out], rfl, by rw [HST.out]; exact inv_over HI.out (by rw [← HD.out]; exact ho)⟩
            case measure => simp [intOf]; omega
          · go_wp2
            go_round
            case rel => exact ⟨m + 1, a * 10 + (d : Int), false, by omega, by omega, by go_num, by rw [← HD.out], rfl, by rw [HST.out]; exact inv_in HI.out (by rw [← HD.out]; omega)⟩
            case measure => simp [intOf]; omega
    · have hm : m = s.size := by omega
      have HI2 : Hid (Inv a sb (V s.size)) := by rw [← hm]; exact HI
      clear HI hm HS
      cases sb with
      | true =>
        have HW : Hid (wa = 9223372036854775807) := by rw [HWA.out]; exact want_sat_pos HI2.out
        clear HWA HI2
        go_wp2
        go_ret2
        exact ⟨ret_pair HW.out.symm, rfl⟩
      | false =>
        have hbd := inv_bd HI2.out
        obtain ⟨ha0, ha1⟩ := hbd
        by_cases he : 9223372036854775807 < a
        · have HW : Hid (wa = 9223372036854775807) := by rw [HWA.out]; exact want_top_pos HI2.out he
          clear HWA HI2
          go_wp2
          go_ret2
          exact ⟨ret_pair HW.out.symm, rfl⟩
        · have HW : Hid (wa = a) := by rw [HWA.out]; exact want_low_pos HI2.out (by omega)
          clear HWA HI2
          go_wp2
          go_ret2
          exact ⟨ret_pair HW.out.symm, rfl⟩

set_option maxHeartbeats 1000000 in
/-- Digits alone. -/
theorem model_bare (s : ByteArray) (V : Nat → Nat) (hS : Spells s 0 V) (hsz : s.size ≤ 2000) (h1 : 0 < s.size) (w : World) :
    Calls Ybad.prog 7 #[.string s] w fun e w' => e = .returned (.tuple #[.int .i64 (Plain.want false (V s.size)), .bool true]) ∧ w' = w := by
  have p0 : 0 < s.size := by omega
  have q0 : (0 : Int) < (s.size : Int) := by omega
  obtain ⟨d0, hd0⟩ : ∃ d0 : Int, (((s[0]'p0).toNat : Nat) : Int) = d0 := ⟨_, rfl⟩
  have hb0 : 48 ≤ d0 := by have := (hS.dig 0 p0 (Nat.le_refl _)).1; omega
  have hb1 : (d0 == 43) = false := by simp; omega
  have hb2 : (d0 == 45) = false := by simp; omega
  have hne : ¬ s = ByteArray.empty := by rintro rfl; simp at h1
  have HS := Lib.hid hS
  clear hS
  obtain ⟨wa, HWA⟩ : ∃ wa : Int, Hid (wa = Plain.want false (V s.size)) := ⟨_, rfl⟩
  have HWB := HWA.out
  rw [← HWB]
  clear HWB
  go_enter Ybad.func7, Ybad.ntmps7
  go_wp2
  go_loop [4, 6, 7] (fun i mg st => ∃ (m : Nat) (a : Int) (sb : Bool), 0 ≤ m ∧ m ≤ s.size ∧ i = .int .i64 m ∧ mg = .int .u64 a ∧ st = .bool sb ∧ Hid (Inv a sb (V m))) (fun i _ _ => s.size - (intOf i).toNat)
  case atStart => exact ⟨0, 0, false, Nat.le_refl _, by omega, rfl, rfl, rfl, .inl ⟨rfl, by rw [HS.out.zero]; rfl, by rw [HS.out.zero]; omega⟩⟩
  case round =>
    obtain ⟨m, a, sb, hm1, hm2, rfl, rfl, rfl, HI⟩ := hrel
    by_cases hlt : m < s.size
    · obtain ⟨d, hd⟩ : ∃ d : Nat, d = (s[m]'hlt).toNat - 48 := ⟨_, rfl⟩
      have hdg := HS.out.dig m hlt hm1
      have hst := HS.out.step m hlt hm1
      rw [← hd] at hst
      have HST := Lib.hid hst
      obtain ⟨c, hcc⟩ : ∃ c : Int, (((s[m]'hlt).toNat : Nat) : Int) = c := ⟨_, rfl⟩
      have hc1 : 48 ≤ c := by omega
      have hc2 : c ≤ 57 := by omega
      have HD : Hid (c - 48 = (d : Int)) := by show c - 48 = (d : Int); omega
      clear hdg hst hd HS HWA hd0
      cases sb with
      | true =>
        go_wp2
        go_round
        case rel => exact ⟨m + 1, a, true, by omega, by omega, by go_num, rfl, rfl, by rw [HST.out]; exact inv_sat HI.out⟩
        case measure => simp [intOf]; omega
      | false =>
        have hbd := inv_bd HI.out
        obtain ⟨ha0, ha1⟩ := hbd
        by_cases hg : 1152921504606846976 ≤ a
        · go_wp2
          go_round
          case rel => exact ⟨m + 1, a, true, by omega, by omega, by go_num, rfl, rfl, by rw [HST.out]; exact inv_great HI.out hg⟩
          case measure => simp [intOf]; omega
        · by_cases ho : 9223372036854775808 < a * 10 + (c - 48)
          · go_wp2
            go_round
            case rel => exact ⟨m + 1, a * 10 + (d : Int), true, by omega, by omega, by go_num, by rw [← HD.out], rfl, by rw [HST.out]; exact inv_over HI.out (by rw [← HD.out]; exact ho)⟩
            case measure => simp [intOf]; omega
          · go_wp2
            go_round
            case rel => exact ⟨m + 1, a * 10 + (d : Int), false, by omega, by omega, by go_num, by rw [← HD.out], rfl, by rw [HST.out]; exact inv_in HI.out (by rw [← HD.out]; omega)⟩
            case measure => simp [intOf]; omega
    · have hm : m = s.size := by omega
      have HI2 : Hid (Inv a sb (V s.size)) := by rw [← hm]; exact HI
      clear HI hm HS
      cases sb with
      | true =>
        have HW : Hid (wa = 9223372036854775807) := by rw [HWA.out]; exact want_sat_pos HI2.out
        clear HWA HI2
        go_wp2
        go_ret2
        exact ⟨ret_pair HW.out.symm, rfl⟩
      | false =>
        have hbd := inv_bd HI2.out
        obtain ⟨ha0, ha1⟩ := hbd
        by_cases he : 9223372036854775807 < a
        · have HW : Hid (wa = 9223372036854775807) := by rw [HWA.out]; exact want_top_pos HI2.out he
          clear HWA HI2
          go_wp2
          go_ret2
          exact ⟨ret_pair HW.out.symm, rfl⟩
        · have HW : Hid (wa = a) := by rw [HWA.out]; exact want_low_pos HI2.out (by omega)
          clear HWA HI2
          go_wp2
          go_ret2
          exact ⟨ret_pair HW.out.symm, rfl⟩

/-! ### No digits -/
set_option maxHeartbeats 400000 in
theorem model_empty (s : ByteArray) (h : s.size = 0) (w : World) :
    Calls Ybad.prog 7 #[.string s] w fun e w' => e = .returned (.tuple #[.int .i64 0, .bool false]) ∧ w' = w := by
  obtain rfl : s = ByteArray.empty := by simpa using h
  clear h
  go_enter Ybad.func7, Ybad.ntmps7
  go_wp2
  go_ret2
  exact ⟨rfl, rfl⟩
set_option maxHeartbeats 400000 in
theorem model_sign (s : ByteArray) (h : s.size = 1) (h0 : s[0] = 45 ∨ s[0] = 43) (w : World) :
    Calls Ybad.prog 7 #[.string s] w fun e w' => e = .returned (.tuple #[.int .i64 0, .bool false]) ∧ w' = w := by
  have p0 : 0 < s.size := by omega
  have q0 : (0 : Int) < (s.size : Int) := by omega
  have q1 : (s.size : Int) ≤ 1 := by omega
  rcases h0 with h0 | h0
  · have hd0 : (((s[0]'p0).toNat : Nat) : Int) = 45 := by rw [h0]; rfl
    clear h h0
    go_enter Ybad.func7, Ybad.ntmps7
    go_wp2
    go_ret2
    exact ⟨rfl, rfl⟩
  · have hd0 : (((s[0]'p0).toNat : Nat) : Int) = 43 := by rw [h0]; rfl
    clear h h0
    go_enter Ybad.func7, Ybad.ntmps7
    go_wp2
    go_ret2
    exact ⟨rfl, rfl⟩
end Go.Proofs.YbulkbkcuDoor
