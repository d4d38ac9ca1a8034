/- The walk of (*nat).inc. -/
import Derived.Test.YbulkbkcuRows
import Derived.Test.YbulkbkcuRow
import Derived.WalkKit
import Derived.WalkSpells
import Derived.WalkLawsBesides
import Derived.RegionTactic
namespace Go.Proofs.Ybulkbkcu
open Go.RowKit

/-- What inc leaves in the row: the words below j are cleared, word j is raised (or, above the words in use, set to one). -/
def incd (f : Nat → Int) (j n : Nat) (i : Nat) : Int := if i < j then 0 else if i = j then (if j < n then f j + 1 else 1) else f i

set_option maxHeartbeats 400000 in
theorem inc_any (b z L j n : Nat) (f : Nat → Int) (w : World) (hL : L ≤ 2000) (hn : n ≤ L) (hjL : j < L) (hj : j ≤ n) (hlow : ∀ i, i < j → f i = wmax) (htop : j < n → Word (f j) ∧ f j ≠ wmax) (hbz : b ≠ z)
    (hr : Row w b L f) (h0 : w.cell? ⟨z, 0, none⟩ = some (.slice (some ⟨b, 0, none⟩) L L)) (h1 : w.cell? ⟨z, 1, none⟩ = some (.int .i64 n)) (f1 : w.frozen? ⟨z, 1, none⟩ = false) :
    Calls Yba.prog 5 #[.pointer (some ⟨z, 0, none⟩)] w fun e w' => e = .returned (.tuple #[]) ∧ Row w' b L (incd f j n) ∧ w'.cell? ⟨z, 0, none⟩ = some (.slice (some ⟨b, 0, none⟩) L L) ∧
      w'.cell? ⟨z, 1, none⟩ = some (.int .i64 (if j < n then (n : Int) else n + 1)) ∧ w'.frozen? ⟨z, 1, none⟩ = false ∧ But b z w w' := by
  have HL : Hid (∀ i, i < j → f i = wmax) := hlow
  have HT : Hid (j < n → Word (f j) ∧ f j ≠ wmax) := htop
  have HR : Hid (Row w b L f) := hr
  clear hlow htop hr
  go_enter Yba.func5, Yba.ntmps5
  go_wp2
  go_loopw [7] (fun i wr => ∃ k : Nat, k ≤ j ∧ i = .int .i64 k ∧ Row wr b L (fun i => if i < k then 0 else f i) ∧ wr.cell? ⟨z, 0, none⟩ = some (.slice (some ⟨b, 0, none⟩) L L) ∧
      wr.cell? ⟨z, 1, none⟩ = some (.int .i64 n) ∧ wr.frozen? ⟨z, 1, none⟩ = false ∧ But b z w wr)
    (fun i _ => n - (intOf i).toNat)
  case atStart => exact ⟨0, Nat.zero_le _, rfl, HR.out.congr (fun j hj => by simp), h0, h1, f1, But.refl _ _ _⟩
  case round =>
    obtain ⟨k, hk, rfl, hrow, g0, g1, gf, hbut⟩ := hrel
    clear h0 h1 f1
    by_cases hkj : k < j
    · have gc : wr.cell? ⟨b, k, none⟩ = some (.int .u64 wmax) := by rw [hrow.cell k (by omega)]; simp [HL.out k hkj]
      have gz : wr.frozen? ⟨b, k, none⟩ = false := hrow.free k (by omega)
      have e1 : IntKind.u64.wrap (wmax + 1) = 0 := wrap_max
      have hkn : k < n := by omega
      have R := Hid.out (p := Row (wr.setCell ⟨b, k, none⟩ (.int .u64 0)) b L (fun i => if i < k + 1 then 0 else f i)) (hrow.set (i := k) (by omega) 0 (fun i hi => by split <;> split <;> (try split) <;> first | rfl | omega))
      have HRow : Hid (Row (wr.setCell ⟨b, k, none⟩ (.int .u64 0)) b L (fun i => if i < k + 1 then 0 else f i)) := R
      have HBut : Hid (But b z w wr) := hbut
      clear R hrow hbut HL HT HR
      go_wp2
      go_roundw
      case rel =>
        refine ⟨k + 1, by omega, by go_num, HRow.out, ?_, ?_, ?_, HBut.out.setCell _ _ (.inl rfl)⟩
        · rw [World.cell?_setCell_other _ _ _ _ (by intro e; exact hbz (congrArg Addr.block e))]; exact g0
        · rw [World.cell?_setCell_other _ _ _ _ (by intro e; exact hbz (congrArg Addr.block e))]; exact g1
        · rw [World.frozen?_setCell]; exact gf
      case measure => simp [intOf]; omega
    · have hkj' : k = j := by omega
      subst hkj'
      by_cases hkn : k < n
      · obtain ⟨hw, hne⟩ := HT.out hkn
        have gc : wr.cell? ⟨b, k, none⟩ = some (.int .u64 (f k)) := by rw [hrow.cell k (by omega)]; simp
        have gz : wr.frozen? ⟨b, k, none⟩ = false := hrow.free k (by omega)
        obtain ⟨v, hv⟩ : ∃ v, v = f k + 1 := ⟨_, rfl⟩
        have e1 : IntKind.u64.wrap (f k + 1) = v := by rw [wrap_up hw hne, hv]
        have e2 : (v != 0) = true := by have := hw.1; simp; omega
        have HRow : Hid (Row (wr.setCell ⟨b, k, none⟩ (.int .u64 v)) b L (incd f k n)) := hrow.set (i := k) (by omega) v (fun i hi => by unfold incd; rw [hv]; split <;> split <;> (try split) <;> first | rfl | omega)
        have HBut : Hid (But b z w wr) := hbut
        clear hrow hbut HL HT HR hw hne hv
        go_wp2
        refine bodyPost_ret (v := .tuple #[]) (results_none (by kernel_rfl) _ _ _) rfl ⟨rfl, HRow.out, ?_, ?_, ?_, HBut.out.setCell _ _ (.inl rfl)⟩
        · rw [World.cell?_setCell_other _ _ _ _ (by intro e; exact hbz (congrArg Addr.block e))]; exact g0
        · rw [World.cell?_setCell_other _ _ _ _ (by intro e; exact hbz (congrArg Addr.block e))]; exact g1
        · rw [World.frozen?_setCell]; exact gf
      · have hkn' : k = n := by omega
        subst hkn'
        have gz : wr.frozen? ⟨b, k, none⟩ = false := hrow.free k (by omega)
        have gc : wr.cell? ⟨b, k, none⟩ = some (.int .u64 (f k)) := by rw [hrow.cell k (by omega)]; simp
        have HRow : Hid (Row (wr.setCell ⟨b, k, none⟩ (.int .u64 1)) b L (incd f k k)) := hrow.set (i := k) (by omega) 1 (fun i hi => by unfold incd; split <;> split <;> (try split) <;> first | rfl | omega)
        have HBut : Hid (But b z w wr) := hbut
        clear hrow hbut HL HT HR
        go_wp2
        go_region
        all_goals go_wp2
        all_goals
          go_end0
          refine ⟨rfl, (HRow.out.other _ _ (by exact fun e => hbz e.symm)).drew, ?_, ?_, ?_, ((HBut.out.setCell _ _ (.inl rfl)).setCell _ _ (.inr rfl)).drew⟩
          · show ((wr.setCell _ _).setCell _ _).cell? _ = _
            rw [World.cell?_setCell_other _ _ _ _ (by simp), World.cell?_setCell_other _ _ _ _ (by intro e; exact hbz (congrArg Addr.block e))]; exact g0
          · show ((wr.setCell _ _).setCell _ _).cell? _ = _
            exact World.cell?_setCell_same _ _ _ ((World.cell?_setCell_other _ _ _ _ (by intro e; exact hbz (congrArg Addr.block e))).trans g1)
          · show ((wr.setCell _ _).setCell _ _).frozen? _ = _
            rw [World.frozen?_setCell, World.frozen?_setCell]; exact gf
end Go.Proofs.Ybulkbkcu
