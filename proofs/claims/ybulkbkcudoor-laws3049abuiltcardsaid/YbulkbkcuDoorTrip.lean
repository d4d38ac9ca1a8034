/- The walk of LawS3049ARoundTrip. -/
import Derived.Test.YbulkbkcuDoorParse
import Derived.Test.YbulkbkcuDoorPlain
import Derived.Lib.ItoaLen
namespace Go.Proofs.YbulkbkcuDoor
open Go.RowKit Go.Shelf

theorem below_drewN (w : World) : ∀ k, Below w.heap.size w (w.drewN k) := fun _ => ⟨rfl, rfl, rfl, Nat.le_refl _, fun _ _ => rfl⟩
theorem below_grow (w : World) (os : Array Obj) : Below w.heap.size w (Sort.grow w os) :=
  ⟨rfl, rfl, rfl, by simp [Sort.grow], fun k hk => by simp [Sort.grow, Array.getElem?_append, hk]⟩
/-- The table's name, as the row lists it. -/
def powName : String := match Rows.lawS3049ARoundTripRow.laid with | _ :: _ :: x :: _ => x.1 | _ => default
/-- strconv.FormatInt(n, 10) at this dump. -/
theorem fmt10 (n : Int) (h0 : -9223372036854775808 ≤ n) (h1 : n ≤ 9223372036854775807) (w : World) (htab : Lib.TabIs Ybad.prog w powName .u64 Lib.pow10Tab) :
    Calls Ybad.prog 8 #[.int .i64 n, .int .i64 10] w fun e w' => e = .returned (.string ⟨(Lib.itoa n).toArray⟩) ∧ Below w.heap.size w w' :=
  (Any.strconv_FormatInt_10 Ybad.laysM173 n h0 h1 w htab).mono fun e w' ⟨he, k, os, hw⟩ => ⟨he, by
    subst hw
    exact (below_drewN w k).trans ((below_grow (w.drewN k) os).mono (Nat.le_refl _))⟩

set_option maxHeartbeats 400000 in
theorem trip_walk (x : Int) (h0 : -9223372036854775808 ≤ x) (h1 : x ≤ 9223372036854775807) (b : Addr) (w : World) (htab : Lib.TabIs Ybad.prog w powName .u64 Lib.pow10Tab) (hr : w.cell? ⟨0, 0, none⟩ = some (.iface 83 (.pointer (some b)))) :
    Calls Ybad.prog 5 #[.int .i64 x] w fun e w' => e = .returned (.bool true) ∧ Below w.heap.size w w' := by
  have H0 : 0 < w.heap.size := World.block_lt_of_cell? _ _ hr
  have HF := Lib.hid (fmt10 x h0 h1 w htab)
  have hsz : (ByteArray.mk (Lib.itoa x).toArray).size ≤ 9223372036854775806 := by
    have := Lib.itoa_length_le x h0 h1
    show (Lib.itoa x).toArray.size ≤ _
    simp; omega
  have hp : Lib.parseIntB 64 (ByteArray.mk (Lib.itoa x).toArray).data.toList = .ok x := by
    show Lib.parseIntB 64 (Lib.itoa x).toArray.toList = .ok x
    rw [List.toList_toArray]; exact Plain.parse_itoa x h0 h1
  obtain ⟨s, hs⟩ : ∃ s, s = ByteArray.mk (Lib.itoa x).toArray := ⟨_, rfl⟩
  rw [← hs] at HF hsz hp
  have HR := Lib.hid hr
  have HP := Lib.hid hp
  clear hr hp hs htab h0 h1
  go_enter Ybad.func5, Ybad.ntmps5
  go_wp2_with (first | (go_at_call 8; refine HF.out.mono ?_; rintro e w1 ⟨rfl, hb⟩; have HB := Lib.hid hb; clear hb) | (go_at_call 6; refine (count_ok s hsz x HP.out b _ ?_).mono ?_; exact (HB.out.cell (p := ⟨0, 0, none⟩) H0).trans HR.out; rintro e w2 ⟨rfl, hb2⟩; have HB2 := Lib.hid hb2; clear hb2))
  go_ret
  exact ⟨rfl, HB.out.trans (HB2.out.mono HB.out.size)⟩
end Go.Proofs.YbulkbkcuDoor
