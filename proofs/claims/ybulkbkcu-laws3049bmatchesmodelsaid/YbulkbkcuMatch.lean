/- The walk of LawS3049BMatchesModel. -/
import Derived.Test.YbulkbkcuCopy
namespace Go.Proofs.Ybulkbkcu
open Go.RowKit

theorem fin_low (f : Nat → Int) (j n : Nat) (h : j < n) (hw : Word (f j)) (hz : f (n - 1) ≠ 0) : incd f j n (n - 1) ≠ 0 := by
  unfold incd
  rw [if_neg (by omega)]
  by_cases e : n - 1 = j
  · rw [if_pos e, if_pos h]; have := hw.1; omega
  · rw [if_neg e]; exact hz
theorem fin_top (f : Nat → Int) (n : Nat) : incd f n n n = 1 := by
  unfold incd
  rw [if_neg (by omega), if_pos rfl, if_neg (by omega)]

theorem came_row {W : World} {b n : Nat} {f : Nat → Int} (h : Row W b n f) : Came W (some ⟨b, 0, none⟩) n f := fun _ => ⟨_, rfl, fun j hj => by
  have e : Addr.add ⟨b, 0, none⟩ j = ⟨b, j, none⟩ := by simp [Addr.add]; omega
  rw [e]; exact h.cell j hj⟩

/-- inc at the law's own number: both rows read alike behind it. -/
theorem inc_stage (w u : World) (B E Z l j n : Nat) (f : Nat → Int) (hBE : B < E) (hE : E < u.heap.size) (hZ : u.heap.size = Z) (hl : l ≤ 1024) (hn : n ≤ l) (hj : j ≤ n) (hlow : ∀ i, i < j → f i = wmax) (htop : j < n → Word (f j) ∧ f j ≠ wmax)
    (hrb : Row u B (l + 1) f) (hre : Row u E (l + 1) (incd f j n)) (hb : Below B w u) :
    Calls Yba.prog 5 #[.pointer (some ⟨Z, 0, none⟩)] (u.alloc (.cells #[.slice (some ⟨B, 0, none⟩) (l + 1) (l + 1), .int .i64 n] 25)) fun e w5 => e = .returned (.tuple #[]) ∧ Row w5 B (l + 1) (incd f j n) ∧ Row w5 E (l + 1) (incd f j n) ∧
      w5.cell? ⟨Z, 0, none⟩ = some (.slice (some ⟨B, 0, none⟩) (l + 1) (l + 1)) ∧ w5.cell? ⟨Z, 1, none⟩ = some (.int .i64 (if j < n then (n : Int) else n + 1)) ∧ Below B w w5 := by
  subst hZ
  refine (inc_any B u.heap.size (l + 1) j n f _ (by omega) (by omega) (by omega) hj hlow htop (by omega) (hrb.alloc _ (by omega)) (by simp) (by simp) (by simp)).mono ?_
  rintro e w5 ⟨rfl, r1, c0, c1, _, hbut⟩
  exact ⟨rfl, r1, hbut.row (hre.alloc _ hE) (by omega) (by omega), c0, c1, (hb.alloc (by omega) _).trans (hbut.below (Nat.le_refl _) (by omega))⟩

set_option maxHeartbeats 4000000 in
theorem match_walk (a0 : Option Addr) (l cap0 : Nat) (g : Nat → Int) (a1 : Int) (w : World) (hl : l ≤ 1024) (hc : Came w a0 l g) (hw : ∀ i, i < l → Word (g i)) (h10 : 0 ≤ a1) (h11 : a1 ≤ 255) :
    Calls Yba.prog 3 #[.slice a0 l cap0, .int .u8 a1] w fun e w' => e = .returned (.bool true) ∧ Below w.heap.size w w' := by
  obtain ⟨kk, hkk⟩ : ∃ kk : Nat, a1 % ((l : Int) + 1) = kk := ⟨(a1 % ((l : Int) + 1)).toNat, by have := Int.emod_nonneg a1 (show (l : Int) + 1 ≠ 0 by omega); omega⟩
  have hkl : kk ≤ l := by have := Int.emod_lt_of_pos a1 (show (0 : Int) < (l : Int) + 1 by omega); omega
  have hmk : ∀ w : World, (Instr.makeSlice 22 (.int .i64 ((l : Int) + 1)) (.int .i64 ((l : Int) + 1))).run Yba.prog w = .ok (.slice (some ⟨w.heap.size, 0, none⟩) (l + 1) (l + 1)) (w.alloc (.cells (madeCells #[.int .u64 0] (l + 1)) 23)) := by
    intro w
    have := run_make_row' (P := Yba.prog) 22 23 (.int .u64 0) 8 Yba.underlying22 Yba.info23 rfl .i64 .i64 (l + 1) (by omega) (by omega) w
    simpa using this
  obtain ⟨W1, hcp, hr1, hb1, hs1⟩ := make_copy w (l + 1) a0 l cap0 g (by omega) hc
  obtain ⟨f0, hf0⟩ : ∃ f0 : Nat → Int, f0 = fun i => if i < l then g i else 0 := ⟨_, rfl⟩
  rw [← hf0] at hr1
  have HW0 : Hid (∀ i, Word (f0 i)) := by
    intro i
    rw [hf0]
    by_cases h : i < l
    · simp only [if_pos h]; exact hw i h
    · simp only [if_neg h]; exact ⟨by omega, by omega⟩
  have H0l : Hid (f0 l = 0) := by show f0 l = 0; rw [hf0]; simp
  have HR1 : Hid (Row W1 w.heap.size (l + 1) f0) := hr1
  have HB1 : Hid (Below w.heap.size w W1) := hb1
  have HS1 : Hid (W1.heap.size = w.heap.size + 1) := hs1
  clear hr1 hb1 hs1 hf0 hc hw
  go_enter Yba.func3, Yba.ntmps3
  go_wp2
  go_loopw [8] (fun i wr => ∃ k : Nat, k ≤ kk ∧ i = .int .i64 k ∧ Row wr w.heap.size (l + 1) (fun i => if i < k then wmax else f0 i) ∧ Below w.heap.size w wr ∧ w.heap.size < wr.heap.size)
    (fun i _ => kk - (intOf i).toNat)
  case atStart => exact ⟨0, Nat.zero_le _, rfl, HR1.out.congr (fun j hj => by simp), HB1.out, by rw [HS1.out]; omega⟩
  case round =>
    obtain ⟨k, hk, rfl, hrow, hbel, hsz⟩ := hrel
    clear HR1 HB1 HS1 hcp
    have HBel : Hid (Below w.heap.size w wr) := hbel
    clear hbel
    by_cases hlt : k < kk
    · have gc := hrow.cell k (by omega)
      have gz := hrow.free k (by omega)
      have HRow : Hid (Row (wr.setCell ⟨w.heap.size, k, none⟩ (.int .u64 18446744073709551615)) w.heap.size (l + 1) (fun i => if i < k + 1 then wmax else f0 i)) :=
        hrow.set (i := k) (by omega) wmax (fun i hi => by split <;> split <;> (try split) <;> first | rfl | omega)
      clear hrow HW0 H0l
      go_wp2
      go_roundw
      case rel => exact ⟨k + 1, by omega, by go_num, HRow.out, HBel.out.setCell (Nat.le_refl _) _, by simpa using hsz⟩
      case measure => simp [intOf]; omega
    · rename World => w3
      obtain ⟨f, hf⟩ : ∃ f : Nat → Int, f = fun i => if i < k then wmax else f0 i := ⟨_, rfl⟩
      have HRow : Hid (Row w3 w.heap.size (l + 1) f) := by rw [hf]; exact hrow
      have HW : Hid (∀ i, Word (f i)) := by
        intro i
        rw [hf]
        by_cases h : i < k
        · simp only [if_pos h]; exact ⟨by decide, by decide⟩
        · simp only [if_neg h]; exact HW0.out i
      have Hl : Hid (f l = 0) := by
        show f l = 0
        rw [hf]
        simp only [if_neg (show ¬ l < k by omega)]
        exact H0l.out
      clear hrow hf HW0 H0l
      go_wp2
      go_loop [9] (fun nn => ∃ n : Nat, n ≤ l ∧ nn = .int .i64 n ∧ Hid (∀ i, n ≤ i → i ≤ l → f i = 0)) (fun nn => (intOf nn).toNat)
      case atStart => exact ⟨l, Nat.le_refl _, rfl, fun i h1 h2 => by rw [show i = l by omega]; exact Hl.out⟩
      case round =>
        obtain ⟨n, hn, rfl, HZ⟩ := hrel
        clear Hl
        obtain ⟨W2, hcp2, hr2, hb2, hs2⟩ := make_copy w3 (l + 1) (some ⟨w.heap.size, 0, none⟩) (l + 1) (l + 1) f (Nat.le_refl _) (came_row HRow.out)
        have HRE : Hid (Row W2 w3.heap.size (l + 1) f) := hr2.congr (fun j hj => by simp [hj])
        have HRB : Hid (Row W2 w.heap.size (l + 1) f) := ⟨fun j hj => (hb2.cell (p := ⟨w.heap.size, j, none⟩) hsz).trans (HRow.out.cell j hj), fun j hj => (hb2.frozen (p := ⟨w.heap.size, j, none⟩) hsz).trans (HRow.out.free j hj)⟩
        have HB2 : Hid (Below w.heap.size w W2) := HBel.out.trans (hb2.mono (Nat.le_of_lt hsz))
        have HS2 : Hid (W2.heap.size = w3.heap.size + 1) := hs2
        clear hr2 hb2 hs2
        by_cases hn0 : 0 < n
        · have gc : w3.cell? ⟨w.heap.size, n - 1, none⟩ = some (.int .u64 (f (n - 1))) := HRow.out.cell (n - 1) (by omega)
          by_cases hfz : f (n - 1) = 0
          · have hbz : (f (n - 1) == 0) = true := by simpa using hfz
            have HF : Hid (f (n - 1) = 0) := hfz
            clear hfz hcp2 HRE HRB HB2 HS2
            go_wp2
            go_round
            case rel => exact ⟨n - 1, by omega, by rw [show ((n - 1 : Nat) : Int) = (n : Int) - 1 by omega], fun i h1 h2 => by
                            by_cases e : i = n - 1
                            · rw [e]; exact HF.out
                            · exact HZ.out i (by omega) h2⟩
            case measure => simp [intOf]; omega
          · have hbz : (f (n - 1) == 0) = false := by simpa using hfz
            have HN : Hid (f (n - 1) ≠ 0) := hfz
            clear hfz HRow HBel
            go_wp2
            go_loop [11] (fun jj => ∃ j : Nat, j ≤ n ∧ jj = .int .i64 j ∧ Hid (∀ i, i < j → f i = wmax)) (fun jj => n - (intOf jj).toNat)
            case atStart => exact ⟨0, Nat.zero_le _, rfl, fun i hi => absurd hi (Nat.not_lt_zero _)⟩
            case round =>
              obtain ⟨j, hj, rfl, HM⟩ := hrel
              by_cases hjn : j < n
              · have gj := HRB.out.cell j (by omega)
                by_cases hjm : f j = wmax
                · have hbm : (f j == 18446744073709551615) = true := by rw [hjm]; decide
                  have HJ : Hid (f j = wmax) := hjm
                  clear hjm HRE HRB HB2 HS2
                  go_wp2
                  go_round
                  case rel => exact ⟨j + 1, by omega, by go_num, fun i hi => by
                                  by_cases e : i = j
                                  · rw [e]; exact HJ.out
                                  · exact HM.out i (by omega)⟩
                  case measure => simp [intOf]; omega
                · have hbm : (f j == 18446744073709551615) = false := by simpa [wmax] using hjm
                  have HJ : Hid (f j ≠ wmax) := hjm
                  clear hjm
                  go_wp2
                  go_loopw [13] (fun i w4 => ∃ k : Nat, k ≤ j ∧ i = .int .i64 k ∧ Row w4 w3.heap.size (l + 1) (fun i => if i < k then 0 else f i) ∧ Row w4 w.heap.size (l + 1) f ∧ Below w.heap.size w w4 ∧ w3.heap.size < w4.heap.size)
                    (fun i _ => j - (intOf i).toNat)
                  case atStart => exact ⟨0, Nat.zero_le _, rfl, HRE.out.congr (fun j hj => by simp), HRB.out, HB2.out, by rw [HS2.out]; omega⟩
                  case round =>
                    clear HRE HRB HB2 HS2
                    rename World => w4
                    obtain ⟨k4, hk4, rfl, hre, hrb, hb4, hs4⟩ := hrel
                    by_cases hlt4 : k4 < j
                    · have ge := hre.cell k4 (by omega)
                      have gz := hre.free k4 (by omega)
                      have HRE : Hid (Row (w4.setCell ⟨w3.heap.size, k4, none⟩ (.int .u64 0)) w3.heap.size (l + 1) (fun i => if i < k4 + 1 then 0 else f i)) :=
                        hre.set (i := k4) (by omega) 0 (fun i hi => by split <;> split <;> (try split) <;> first | rfl | omega)
                      have HRB : Hid (Row (w4.setCell ⟨w3.heap.size, k4, none⟩ (.int .u64 0)) w.heap.size (l + 1) f) := hrb.other _ _ (by show w3.heap.size ≠ w.heap.size; omega)
                      have HB4 : Hid (Below w.heap.size w w4) := hb4
                      clear hre hrb hb4
                      go_wp2
                      go_roundw
                      case rel => exact ⟨k4 + 1, by omega, by go_num, HRE.out, HRB.out, HB4.out.setCell (Nat.le_of_lt hsz) _, by simpa using hs4⟩
                      case measure => simp [intOf]; omega
                    · have hkj : k4 = j := by omega
                      subst hkj
                      have gb := hrb.cell k4 (by omega)
                      have gf := hre.free k4 (by omega)
                      have ge := hre.cell k4 (by omega)
                      obtain ⟨v, hv⟩ : ∃ v, v = f k4 + 1 := ⟨_, rfl⟩
                      have e1 : IntKind.u64.wrap (f k4 + 1) = v := by rw [wrap_up (HW.out k4) HJ.out, hv]
                      have HRE : Hid (Row (w4.setCell ⟨w3.heap.size, k4, none⟩ (.int .u64 v)) w3.heap.size (l + 1) (incd f k4 n)) :=
                        hre.set (i := k4) (by omega) v (fun i hi => by unfold incd; rw [hv]; split <;> split <;> (try split) <;> first | rfl | omega)
                      have HRB : Hid (Row (w4.setCell ⟨w3.heap.size, k4, none⟩ (.int .u64 v)) w.heap.size (l + 1) f) := hrb.other _ _ (by show w3.heap.size ≠ w.heap.size; omega)
                      have HB4 : Hid (Below w.heap.size w w4) := hb4
                      clear hre hrb hb4 hv
                      go_wp2_with fail
                      refine (inc_stage w (w4.setCell ⟨w3.heap.size, k4, none⟩ (.int .u64 v)) w.heap.size w3.heap.size w4.heap.size l k4 n f hsz (by simpa using hs4) (by simp) hl hn (by omega) HM.out (fun _ => ⟨HW.out k4, HJ.out⟩) HRB.out HRE.out (HB4.out.setCell (Nat.le_of_lt hsz) _)).mono ?_
                      rintro e w5 ⟨rfl, rb5, re5, c50, c51, hb5⟩
                      rw [if_pos hjn] at c51
                      have HRB5 : Hid (Row w5 w.heap.size (l + 1) (incd f k4 n)) := rb5
                      have HRE5 : Hid (Row w5 w3.heap.size (l + 1) (incd f k4 n)) := re5
                      have HB5 : Hid (Below w.heap.size w w5) := hb5
                      clear rb5 re5 hb5 HRB HRE HB4
                      go_wp2
                      go_loopw [15] (fun i w6 => ∃ k : Nat, k ≤ l + 1 ∧ i = .int .i64 k ∧ Row w6 w.heap.size (l + 1) (incd f k4 n) ∧ Row w6 w3.heap.size (l + 1) (incd f k4 n) ∧ w6.cell? ⟨w4.heap.size, 0, none⟩ = some (.slice (some ⟨w.heap.size, 0, none⟩) (l + 1) (l + 1)) ∧ w6.cell? ⟨w4.heap.size, 1, none⟩ = some (.int .i64 n) ∧ Below w.heap.size w w6)
                        (fun i _ => l + 1 - (intOf i).toNat)
                      case atStart => exact ⟨0, Nat.zero_le _, rfl, HRB5.out, HRE5.out, c50, c51, HB5.out⟩
                      case round =>
                        clear HRB5 HRE5 HB5 c50 c51
                        rename World => w6
                        obtain ⟨k6, hk6, rfl, rb6, re6, c60, c61, hb6⟩ := hrel
                        have HB6 : Hid (Below w.heap.size w w6) := hb6
                        by_cases hlt6 : k6 ≤ l
                        · obtain ⟨x, hx⟩ : ∃ x, x = incd f k4 n k6 := ⟨_, rfl⟩
                          have g1 := rb6.cell k6 (by omega)
                          have g2 := re6.cell k6 (by omega)
                          rw [← hx] at g1 g2
                          have HRB6 : Hid (Row w6 w.heap.size (l + 1) (incd f k4 n)) := rb6
                          have HRE6 : Hid (Row w6 w3.heap.size (l + 1) (incd f k4 n)) := re6
                          have q1 : (k6 : Int) < (l : Int) + 1 := by omega
                          clear rb6 re6 hb6 hx
                          go_wp2
                          go_region
                          all_goals go_wp2
                          all_goals
                            go_roundw
                            case rel => exact ⟨k6 + 1, by omega, by go_num, HRB6.out.drew, HRE6.out.drew, c60, c61, HB6.out.drew⟩
                            case measure => simp [intOf]; omega
                        · have gx := rb6.cell (n - 1) (by omega)
                          obtain ⟨y, hy⟩ : ∃ y, y = incd f k4 n (n - 1) := ⟨_, rfl⟩
                          rw [← hy] at gx
                          have gy : (y != 0) = true := by have := fin_low f k4 n hjn (HW.out k4) HN.out; rw [← hy] at this; simpa using this
                          clear hy
                          clear rb6 re6 hb6
                          go_wp2
                          go_ret
                          exact ⟨rfl, HB6.out⟩
              · have hdj : decide ((j : Int) < (n : Int)) = false := decide_eq_false (by omega)
                go_wp2
                go_loopw [13] (fun i w4 => ∃ k : Nat, k ≤ j ∧ i = .int .i64 k ∧ Row w4 w3.heap.size (l + 1) (fun i => if i < k then 0 else f i) ∧ Row w4 w.heap.size (l + 1) f ∧ Below w.heap.size w w4 ∧ w3.heap.size < w4.heap.size)
                  (fun i _ => j - (intOf i).toNat)
                case atStart => exact ⟨0, Nat.zero_le _, rfl, HRE.out.congr (fun j hj => by simp), HRB.out, HB2.out, by rw [HS2.out]; omega⟩
                case round =>
                  clear HRE HRB HB2 HS2
                  rename World => w4
                  obtain ⟨k4, hk4, rfl, hre, hrb, hb4, hs4⟩ := hrel
                  by_cases hlt4 : k4 < j
                  · have ge := hre.cell k4 (by omega)
                    have gz := hre.free k4 (by omega)
                    have HRE : Hid (Row (w4.setCell ⟨w3.heap.size, k4, none⟩ (.int .u64 0)) w3.heap.size (l + 1) (fun i => if i < k4 + 1 then 0 else f i)) :=
                      hre.set (i := k4) (by omega) 0 (fun i hi => by split <;> split <;> (try split) <;> first | rfl | omega)
                    have HRB : Hid (Row (w4.setCell ⟨w3.heap.size, k4, none⟩ (.int .u64 0)) w.heap.size (l + 1) f) := hrb.other _ _ (by show w3.heap.size ≠ w.heap.size; omega)
                    have HB4 : Hid (Below w.heap.size w w4) := hb4
                    clear hre hrb hb4
                    go_wp2
                    go_roundw
                    case rel => exact ⟨k4 + 1, by omega, by go_num, HRE.out, HRB.out, HB4.out.setCell (Nat.le_of_lt hsz) _, by simpa using hs4⟩
                    case measure => simp [intOf]; omega
                  · have hkj : k4 = j := by omega
                    subst hkj
                    have hkn : k4 = n := by omega
                    subst hkn
                    have gf := hre.free k4 (by omega)
                    have ge := hre.cell k4 (by omega)
                    have HRE : Hid (Row (w4.setCell ⟨w3.heap.size, k4, none⟩ (.int .u64 1)) w3.heap.size (l + 1) (incd f k4 k4)) :=
                      hre.set (i := k4) (by omega) 1 (fun i hi => by unfold incd; split <;> split <;> (try split) <;> first | rfl | omega)
                    have HRB : Hid (Row (w4.setCell ⟨w3.heap.size, k4, none⟩ (.int .u64 1)) w.heap.size (l + 1) f) := hrb.other _ _ (by show w3.heap.size ≠ w.heap.size; omega)
                    have HB4 : Hid (Below w.heap.size w w4) := hb4
                    clear hre hrb hb4
                    go_wp2_with fail
                    refine (inc_stage w (w4.setCell ⟨w3.heap.size, k4, none⟩ (.int .u64 1)) w.heap.size w3.heap.size w4.heap.size l k4 k4 f hsz (by simpa using hs4) (by simp) hl hn (by omega) HM.out (fun h => absurd h (Nat.lt_irrefl _)) HRB.out HRE.out (HB4.out.setCell (Nat.le_of_lt hsz) _)).mono ?_
                    rintro e w5 ⟨rfl, rb5, re5, c50, c51, hb5⟩
                    rw [if_neg (Nat.lt_irrefl _)] at c51
                    have HRB5 : Hid (Row w5 w.heap.size (l + 1) (incd f k4 k4)) := rb5
                    have HRE5 : Hid (Row w5 w3.heap.size (l + 1) (incd f k4 k4)) := re5
                    have HB5 : Hid (Below w.heap.size w w5) := hb5
                    clear rb5 re5 hb5 HRB HRE HB4
                    go_wp2
                    go_loopw [15] (fun i w6 => ∃ k : Nat, k ≤ l + 1 ∧ i = .int .i64 k ∧ Row w6 w.heap.size (l + 1) (incd f k4 k4) ∧ Row w6 w3.heap.size (l + 1) (incd f k4 k4) ∧ w6.cell? ⟨w4.heap.size, 0, none⟩ = some (.slice (some ⟨w.heap.size, 0, none⟩) (l + 1) (l + 1)) ∧ w6.cell? ⟨w4.heap.size, 1, none⟩ = some (.int .i64 ((k4 : Int) + 1)) ∧ Below w.heap.size w w6)
                      (fun i _ => l + 1 - (intOf i).toNat)
                    case atStart => exact ⟨0, Nat.zero_le _, rfl, HRB5.out, HRE5.out, c50, c51, HB5.out⟩
                    case round =>
                      clear HRB5 HRE5 HB5 c50 c51
                      rename World => w6
                      obtain ⟨k6, hk6, rfl, rb6, re6, c60, c61, hb6⟩ := hrel
                      have HB6 : Hid (Below w.heap.size w w6) := hb6
                      by_cases hlt6 : k6 ≤ l
                      · obtain ⟨x, hx⟩ : ∃ x, x = incd f k4 k4 k6 := ⟨_, rfl⟩
                        have g1 := rb6.cell k6 (by omega)
                        have g2 := re6.cell k6 (by omega)
                        rw [← hx] at g1 g2
                        have HRB6 : Hid (Row w6 w.heap.size (l + 1) (incd f k4 k4)) := rb6
                        have HRE6 : Hid (Row w6 w3.heap.size (l + 1) (incd f k4 k4)) := re6
                        have q1 : (k6 : Int) < (l : Int) + 1 := by omega
                        clear rb6 re6 hb6 hx
                        go_wp2
                        go_region
                        all_goals go_wp2
                        all_goals
                          go_roundw
                          case rel => exact ⟨k6 + 1, by omega, by go_num, HRB6.out.drew, HRE6.out.drew, c60, c61, HB6.out.drew⟩
                          case measure => simp [intOf]; omega
                      · have gx := rb6.cell k4 (by omega)
                        rw [fin_top] at gx
                        clear rb6 re6 hb6
                        go_wp2
                        go_ret
                        exact ⟨rfl, HB6.out⟩
        · have hd : decide ((0 : Int) < (n : Int)) = false := decide_eq_false (by omega)
          clear HRow HBel
          go_wp2
          go_loop [11] (fun jj => ∃ j : Nat, j ≤ n ∧ jj = .int .i64 j ∧ Hid (∀ i, i < j → f i = wmax)) (fun jj => n - (intOf jj).toNat)
          case atStart => exact ⟨0, Nat.zero_le _, rfl, fun i hi => absurd hi (Nat.not_lt_zero _)⟩
          case round =>
            obtain ⟨j, hj, rfl, HM⟩ := hrel
            have hjn : ¬ j < n := by omega
            have hdj : decide ((j : Int) < (n : Int)) = false := decide_eq_false (by omega)
            go_wp2
            go_loopw [13] (fun i w4 => ∃ k : Nat, k ≤ j ∧ i = .int .i64 k ∧ Row w4 w3.heap.size (l + 1) (fun i => if i < k then 0 else f i) ∧ Row w4 w.heap.size (l + 1) f ∧ Below w.heap.size w w4 ∧ w3.heap.size < w4.heap.size)
              (fun i _ => j - (intOf i).toNat)
            case atStart => exact ⟨0, Nat.zero_le _, rfl, HRE.out.congr (fun j hj => by simp), HRB.out, HB2.out, by rw [HS2.out]; omega⟩
            case round =>
              clear HRE HRB HB2 HS2
              rename World => w4
              obtain ⟨k4, hk4, rfl, hre, hrb, hb4, hs4⟩ := hrel
              by_cases hlt4 : k4 < j
              · exfalso; omega
              · have hkj : k4 = j := by omega
                subst hkj
                have hkn : k4 = n := by omega
                subst hkn
                have gf := hre.free k4 (by omega)
                have ge := hre.cell k4 (by omega)
                have HRE : Hid (Row (w4.setCell ⟨w3.heap.size, k4, none⟩ (.int .u64 1)) w3.heap.size (l + 1) (incd f k4 k4)) :=
                  hre.set (i := k4) (by omega) 1 (fun i hi => by unfold incd; split <;> split <;> (try split) <;> first | rfl | omega)
                have HRB : Hid (Row (w4.setCell ⟨w3.heap.size, k4, none⟩ (.int .u64 1)) w.heap.size (l + 1) f) := hrb.other _ _ (by show w3.heap.size ≠ w.heap.size; omega)
                have HB4 : Hid (Below w.heap.size w w4) := hb4
                clear hre hrb hb4
                go_wp2_with fail
                refine (inc_stage w (w4.setCell ⟨w3.heap.size, k4, none⟩ (.int .u64 1)) w.heap.size w3.heap.size w4.heap.size l k4 k4 f hsz (by simpa using hs4) (by simp) hl hn (by omega) HM.out (fun h => absurd h (Nat.lt_irrefl _)) HRB.out HRE.out (HB4.out.setCell (Nat.le_of_lt hsz) _)).mono ?_
                rintro e w5 ⟨rfl, rb5, re5, c50, c51, hb5⟩
                rw [if_neg (Nat.lt_irrefl _)] at c51
                have HRB5 : Hid (Row w5 w.heap.size (l + 1) (incd f k4 k4)) := rb5
                have HRE5 : Hid (Row w5 w3.heap.size (l + 1) (incd f k4 k4)) := re5
                have HB5 : Hid (Below w.heap.size w w5) := hb5
                clear rb5 re5 hb5 HRB HRE HB4
                go_wp2
                go_loopw [15] (fun i w6 => ∃ k : Nat, k ≤ l + 1 ∧ i = .int .i64 k ∧ Row w6 w.heap.size (l + 1) (incd f k4 k4) ∧ Row w6 w3.heap.size (l + 1) (incd f k4 k4) ∧ w6.cell? ⟨w4.heap.size, 0, none⟩ = some (.slice (some ⟨w.heap.size, 0, none⟩) (l + 1) (l + 1)) ∧ w6.cell? ⟨w4.heap.size, 1, none⟩ = some (.int .i64 ((k4 : Int) + 1)) ∧ Below w.heap.size w w6)
                  (fun i _ => l + 1 - (intOf i).toNat)
                case atStart => exact ⟨0, Nat.zero_le _, rfl, HRB5.out, HRE5.out, c50, c51, HB5.out⟩
                case round =>
                  clear HRB5 HRE5 HB5 c50 c51
                  rename World => w6
                  obtain ⟨k6, hk6, rfl, rb6, re6, c60, c61, hb6⟩ := hrel
                  have HB6 : Hid (Below w.heap.size w w6) := hb6
                  by_cases hlt6 : k6 ≤ l
                  · obtain ⟨x, hx⟩ : ∃ x, x = incd f k4 k4 k6 := ⟨_, rfl⟩
                    have g1 := rb6.cell k6 (by omega)
                    have g2 := re6.cell k6 (by omega)
                    rw [← hx] at g1 g2
                    have HRB6 : Hid (Row w6 w.heap.size (l + 1) (incd f k4 k4)) := rb6
                    have HRE6 : Hid (Row w6 w3.heap.size (l + 1) (incd f k4 k4)) := re6
                    have q1 : (k6 : Int) < (l : Int) + 1 := by omega
                    clear rb6 re6 hb6 hx
                    go_wp2
                    go_region
                    all_goals go_wp2
                    all_goals
                      go_roundw
                      case rel => exact ⟨k6 + 1, by omega, by go_num, HRB6.out.drew, HRE6.out.drew, c60, c61, HB6.out.drew⟩
                      case measure => simp [intOf]; omega
                  · have gx := rb6.cell k4 (by omega)
                    rw [fin_top] at gx
                    clear rb6 re6 hb6
                    go_wp2
                    go_ret
                    exact ⟨rfl, HB6.out⟩
end Go.Proofs.Ybulkbkcu
