/- Plain facts: decimal digits, what strconv.ParseInt makes of them, and the law's own model. No Go in sight. -/
import Derived.Lib.ParseIntB
import Derived.Lib.ItoaMem
namespace Go.Proofs.YbulkbkcuDoor.Plain
open Go.Lib

/-- What the digits behind acc spell. -/
def val (acc : Nat) (l : List UInt8) : Nat := l.foldl (fun a c => a * 10 + (c.toNat - 48)) acc
theorem val_nil (acc : Nat) : val acc [] = acc := List.foldl_nil ..
theorem val_cons (acc : Nat) (c : UInt8) (r : List UInt8) : val acc (c :: r) = val (acc * 10 + (c.toNat - 48)) r := List.foldl_cons ..
def Dig (c : UInt8) : Prop := 48 ≤ c.toNat ∧ c.toNat ≤ 57

theorem val_le (l : List UInt8) : ∀ acc, acc ≤ val acc l := by
  induction l with
  | nil => intro acc; rw [val_nil]; exact Nat.le_refl _
  | cons c r ih =>
    intro acc
    have h1 := ih (acc * 10 + (c.toNat - 48))
    rw [val_cons]
    exact Nat.le_trans (by omega) h1
theorem val_snoc (l : List UInt8) (c : UInt8) (acc : Nat) : val acc (l ++ [c]) = val acc l * 10 + (c.toNat - 48) := by
  unfold val
  rw [List.foldl_append, List.foldl_cons, List.foldl_nil]

theorem uint_ok (M : Nat) (hM : M ≤ 18446744073709551615) (l : List UInt8) : ∀ acc, (∀ c ∈ l, Dig c) → val acc l ≤ M → parseUintM M acc l = .ok (val acc l) := by
  induction l with
  | nil => intro acc _ _; rw [val_nil]; rfl
  | cons c r ih =>
    intro acc hd hv
    have hc : Dig c := hd c (List.mem_cons_self ..)
    have hle := val_le r (acc * 10 + (c.toNat - 48))
    rw [val_cons] at hv
    unfold parseUintM
    rw [if_pos (show 48 ≤ c.toNat ∧ c.toNat ≤ 57 from hc), if_neg (by omega), if_neg (by omega)]
    rw [val_cons]
    exact ih _ (fun x hx => hd x (List.mem_cons_of_mem _ hx)) hv
theorem uint_range (l : List UInt8) : ∀ acc, acc ≤ 18446744073709551615 → (∀ c ∈ l, Dig c) → 18446744073709551615 < val acc l → parseUintM 18446744073709551615 acc l = .range := by
  induction l with
  | nil => intro acc h _ hv; rw [val_nil] at hv; omega
  | cons c r ih =>
    intro acc ha hd hv
    have hc : Dig c := hd c (List.mem_cons_self ..)
    rw [val_cons] at hv
    unfold parseUintM
    rw [if_pos (show 48 ≤ c.toNat ∧ c.toNat ≤ 57 from hc)]
    by_cases h1 : 1844674407370955162 ≤ acc
    · rw [if_pos h1]
    · rw [if_neg h1]
      by_cases h2 : 18446744073709551615 < acc * 10 + (c.toNat - 48)
      · rw [if_pos h2]
      · rw [if_neg h2]
        exact ih _ (by omega) (fun x hx => hd x (List.mem_cons_of_mem _ hx)) hv

/-- The value, held within an int64. -/
def want (neg : Bool) (v : Nat) : Int := if neg then (if 9223372036854775808 ≤ v then -9223372036854775808 else -(v : Int)) else (if 9223372036854775808 ≤ v then 9223372036854775807 else (v : Int))

/-- A sign in front. -/
def signed : Nat → List UInt8 → List UInt8
  | 1, l => 45 :: l
  | 2, l => 43 :: l
  | _, l => l

/-- How ParseInt(s, 10, 64) ends at a sign and digits. -/
theorem int_end (k : Nat) (l : List UInt8) (hl : l ≠ []) (hd : ∀ c ∈ l, Dig c) :
    parseIntB 64 (signed k l) = .ok (want (k == 1) (val 0 l)) ∨ ((parseIntB 64 (signed k l) = .range ∧ intSat 64 (signed k l) = want (k == 1) (val 0 l)) ∧ ((k == 1) = true → 9223372036854775808 < val 0 l) ∧ (¬ (k == 1) = true → 9223372036854775808 ≤ val 0 l)) := by
  have hB : parseUintB 64 l = parseUintM 18446744073709551615 0 l := by unfold parseUintB; rw [if_neg hl]
  obtain ⟨c, r, rfl⟩ : ∃ c r, l = c :: r := by
    cases l with
    | nil => exact absurd rfl hl
    | cons c r => exact ⟨c, r, rfl⟩
  have hc : Dig c := hd c (List.mem_cons_self ..)
  have hc1 : ¬ c.toNat = 43 := by unfold Dig at hc; omega
  have hc2 : ¬ c.toNat = 45 := by unfold Dig at hc; omega
  have e63 : (2 : Nat) ^ (64 - 1) = 9223372036854775808 := by decide
  -- the three shapes
  have hshape : parseIntB 64 (signed k (c :: r)) = (match parseUintB 64 (c :: r) with
      | .ok u => if ¬ (k == 1) = true ∧ 9223372036854775808 ≤ u then .range else if (k == 1) = true ∧ 9223372036854775808 < u then .range else .ok (if (k == 1) = true then -(u : Int) else u)
      | x => match x with | .range => .range | _ => parseIntB 64 []) := by
    match k with
    | 0 => simp [signed, parseIntB, hc1, hc2, e63]; cases parseUintB 64 (c :: r) <;> simp
    | 1 => simp [signed, parseIntB, e63]; cases parseUintB 64 (c :: r) <;> simp
    | 2 => simp [signed, parseIntB, e63]; cases parseUintB 64 (c :: r) <;> simp
    | k + 3 => simp [signed, parseIntB, hc1, hc2, e63]; cases parseUintB 64 (c :: r) <;> simp
  have hsat : intSat 64 (signed k (c :: r)) = if (k == 1) = true then -9223372036854775808 else 9223372036854775807 := by
    match k with
    | 0 => simp [signed, intSat, hc2]
    | 1 => simp [signed, intSat]
    | 2 => simp [signed, intSat]
    | k + 3 => simp [signed, intSat, hc2]
  rw [hshape, hsat, hB]
  by_cases hv : val 0 (c :: r) ≤ 18446744073709551615
  · rw [uint_ok _ (Nat.le_refl _) _ 0 hd hv]
    unfold want
    by_cases hk : (k == 1) = true
    · by_cases h1 : 9223372036854775808 < val 0 (c :: r)
      · right; refine ⟨?_, fun _ => h1, fun h => absurd hk h⟩; simp [hk, h1]; omega
      · left; simp [hk, h1]; intro h2; omega
    · by_cases h1 : 9223372036854775808 ≤ val 0 (c :: r)
      · right; refine ⟨?_, fun h => absurd h hk, fun _ => h1⟩; simp [hk, h1]
      · left; simp [hk, h1]
  · rw [uint_range _ 0 (by omega) hd (by omega)]
    right
    refine ⟨⟨rfl, ?_⟩, fun _ => by omega, fun _ => by omega⟩
    unfold want
    by_cases hk : (k == 1) = true
    · simp [hk]; omega
    · simp [hk]; omega
theorem int_none (k : Nat) : (∀ v, parseIntB 64 (signed k []) ≠ .ok v) ∧ parseIntB 64 (signed k []) ≠ .range := by
  match k with
  | 0 => simp [signed, parseIntB]
  | 1 => simp [signed, parseIntB, parseUintB]
  | 2 => simp [signed, parseIntB, parseUintB]
  | k + 3 => simp [signed, parseIntB]

/-! ### The decimal numeral of a number -/
theorem ofNat_dig (d : Nat) (h : d < 10) : Dig (UInt8.ofNat (48 + d)) ∧ (UInt8.ofNat (48 + d)).toNat - 48 = d := by
  have e : (UInt8.ofNat (48 + d)).toNat = 48 + d := by
    rw [UInt8.toNat_ofNat']; omega
  unfold Dig
  rw [e]
  omega
theorem dec_spells (u : Nat) : decDigits u ≠ [] ∧ (∀ c ∈ decDigits u, Dig c) ∧ val 0 (decDigits u) = u := by
  induction u using Nat.strongRecOn with
  | ind u ih =>
    rw [decDigits]
    by_cases h : u < 10
    · rw [dif_pos h]
      obtain ⟨h1, h2⟩ := ofNat_dig u h
      refine ⟨by simp, ?_, ?_⟩
      · intro c hc
        rw [List.mem_singleton] at hc
        rw [hc]; exact h1
      · rw [val_cons, val_nil, h2]; omega
    · rw [dif_neg h]
      obtain ⟨i1, i2, i3⟩ := ih (u / 10) (by omega)
      obtain ⟨h1, h2⟩ := ofNat_dig (u % 10) (by omega)
      refine ⟨by simp, ?_, ?_⟩
      · intro c hc
        rcases List.mem_append.1 hc with hc | hc
        · exact i2 c hc
        · rw [List.mem_singleton] at hc
          rw [hc]; exact h1
      · rw [val_snoc, i3, h2]; omega
/-- ParseInt gives back what FormatInt wrote. -/
theorem parse_itoa (n : Int) (h0 : -9223372036854775808 ≤ n) (h1 : n ≤ 9223372036854775807) : parseIntB 64 (itoa n) = .ok n := by
  by_cases hn : n < 0
  · obtain ⟨d1, d2, d3⟩ := dec_spells n.natAbs
    have e : itoa n = signed 1 (decDigits n.natAbs) := by unfold itoa; rw [if_pos hn]; rfl
    rw [e]
    have hw : want ((1 : Nat) == 1) (val 0 (decDigits n.natAbs)) = n := by
      rw [d3]; unfold want; simp; omega
    rcases int_end 1 _ d1 d2 with h | ⟨_, h, _⟩
    · rw [h, hw]
    · have := h rfl; omega
  · obtain ⟨d1, d2, d3⟩ := dec_spells n.toNat
    have e : itoa n = signed 0 (decDigits n.toNat) := by unfold itoa; rw [if_neg hn]; rfl
    rw [e]
    have hw : want ((0 : Nat) == 1) (val 0 (decDigits n.toNat)) = n := by
      rw [d3]; unfold want; simp; omega
    rcases int_end 0 _ d1 d2 with h | ⟨_, _, h⟩
    · rw [h, hw]
    · have := h (by decide); omega
end Go.Proofs.YbulkbkcuDoor.Plain
