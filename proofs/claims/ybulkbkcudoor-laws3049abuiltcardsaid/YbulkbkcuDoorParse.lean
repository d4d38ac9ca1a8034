/- refdata.parseCount by its contracts, by how strconv.ParseInt ends. -/
import Derived.Test.YbulkbkcuDoorIs
import Derived.Test.YbulkbkcuDoorShelf
import Derived.WalkSpells
import Derived.Lib.Hide
namespace Go.Proofs.YbulkbkcuDoor
open Go.RowKit Go.Shelf

theorem pint_ok (s : ByteArray) (hmax : s.size ≤ 9223372036854775806) (v : Int) (h : Lib.parseIntB 64 s.data.toList = .ok v) (w : World) :
    Calls Ybad.prog 9 #[.string s, .int .i64 10, .int .i64 64] w fun e w' => e = .returned (.tuple #[.int .i64 v, .nilIface]) ∧ Below w.heap.size w w' :=
  (Any.strconv_ParseInt_10_at64_ok Ybad.laysC174 s hmax v h w).mono fun e w' ⟨he, hw⟩ => ⟨he, by
    rcases hw with rfl | ⟨t, rfl⟩
    · exact Below.refl _ _
    · exact Lib.bytesWorld_below _ _ _⟩
theorem pint_range (s : ByteArray) (hlim : s.size ≤ 281474976710656) (h : Lib.parseIntB 64 s.data.toList = .range) (ev : Value) (w : World) (hv : w.cell? ⟨0, 0, none⟩ = some ev) (hev : ev = .nilIface ∨ ∃ te pe, ev = .iface te pe) :
    Calls Ybad.prog 9 #[.string s, .int .i64 10, .int .i64 64] w fun e w' => ∃ N, e = .returned (.tuple #[.int .i64 (Lib.intSat 64 s.data.toList), .iface 55 (.pointer (some ⟨N, 0, none⟩))]) ∧ w.heap.size ≤ N ∧ w'.heap[N]? = some (.cells #[.string ⟨#[80, 97, 114, 115, 101, 73, 110, 116]⟩, .string s, ev] 79 (0, 0)) ∧ Below w.heap.size w w' :=
  Any.strconv_ParseInt_10_at64_range Ybad.laysC174 s hlim h ev w hv hev

theorem num_cell {w : World} {N : Nat} {x y v : Value} (h : w.heap[N]? = some (.cells #[x, y, v] 79 (0, 0))) : w.cell? ⟨N, 2, none⟩ = some v := by
  simp [World.cell?, h]

/-- A number comes out: no error. -/
theorem count_ok (s : ByteArray) (hmax : s.size ≤ 9223372036854775806) (v : Int) (h : Lib.parseIntB 64 s.data.toList = .ok v) (b : Addr) (w : World) (hr : w.cell? ⟨0, 0, none⟩ = some (.iface 83 (.pointer (some b)))) :
    Calls Ybad.prog 6 #[.string s] w fun e w' => e = .returned (.tuple #[.int .i64 v, .nilIface]) ∧ Below w.heap.size w w' := by
  have H0 : 0 < w.heap.size := World.block_lt_of_cell? _ _ hr
  have HR : Hid (w.cell? ⟨0, 0, none⟩ = some (.iface 83 (.pointer (some b)))) := hr
  have HP : Hid (Lib.parseIntB 64 s.data.toList = .ok v) := h
  clear hr h
  go_enter Ybad.func6, Ybad.ntmps6
  go_wp2_with (first | (go_at_call 9; refine (pint_ok s hmax v HP.out _).mono ?_; rintro e w1 ⟨rfl, hb⟩; have hc := (hb.cell (p := ⟨0, 0, none⟩) H0).trans HR.out; have HB := Lib.hid hb; clear hb) | (go_at_call 10; refine (is_nil b _).mono ?_; rintro e w2 ⟨rfl, rfl⟩))
  go_ret2
  exact ⟨rfl, HB.out⟩

/-- The digits overflow: the error is dropped, the number is the nearest. -/
theorem count_range (s : ByteArray) (hlim : s.size ≤ 281474976710656) (h : Lib.parseIntB 64 s.data.toList = .range) (b : Addr) (w : World) (hr : w.cell? ⟨0, 0, none⟩ = some (.iface 83 (.pointer (some b)))) :
    Calls Ybad.prog 6 #[.string s] w fun e w' => e = .returned (.tuple #[.int .i64 (Lib.intSat 64 s.data.toList), .nilIface]) ∧ Below w.heap.size w w' := by
  have H0 : 0 < w.heap.size := World.block_lt_of_cell? _ _ hr
  have HR : Hid (w.cell? ⟨0, 0, none⟩ = some (.iface 83 (.pointer (some b)))) := hr
  have HP : Hid (Lib.parseIntB 64 s.data.toList = .range) := h
  clear hr h
  obtain ⟨x, hx⟩ : ∃ x, x = Lib.intSat 64 s.data.toList := ⟨_, rfl⟩
  have hpr := pint_range s hlim HP.out _ w HR.out (.inr ⟨_, _, rfl⟩)
  rw [← hx] at hpr ⊢
  have HPR := Lib.hid hpr
  clear hpr hx HP
  go_enter Ybad.func6, Ybad.ntmps6
  go_wp2_with (first | (go_at_call 9; refine HPR.out.mono ?_; rintro e w1 ⟨N, rfl, hN, hcell, hb⟩; have hc := (hb.cell (p := ⟨0, 0, none⟩) H0).trans HR.out; have hn := num_cell hcell; have HB := Lib.hid hb; clear hb hcell) | (go_at_call 10; refine (is_num_same N b _ ?_).mono ?_; exact hn; rintro e w2 ⟨rfl, rfl⟩))
  go_ret2
  exact ⟨rfl, HB.out⟩

/-- No numeral: 0, and an error. ('h' is handed on as it comes out of a case split.) -/
theorem count_fault (s : ByteArray) (a b : Addr) (ca cb : Array Value) (ta tb : TypeId) (w : World) (hr : w.cell? ⟨0, 0, none⟩ = some (.iface 83 (.pointer (some b)))) (hab : a ≠ b) (ha : w.heap[a.block]? = some (.cells ca ta (0, 0))) (hb : w.heap[b.block]? = some (.cells cb tb (0, 0)))
    (hpr : Calls Ybad.prog 9 #[.string s, .int .i64 10, .int .i64 64] w fun e w' => ∃ N, e = .returned (.tuple #[.int .i64 0, .iface 55 (.pointer (some ⟨N, 0, none⟩))]) ∧ w.heap.size ≤ N ∧ w'.heap[N]? = some (.cells #[.string ⟨#[80, 97, 114, 115, 101, 73, 110, 116]⟩, .string s, .iface 83 (.pointer (some a))] 79 (0, 0)) ∧ Below w.heap.size w w') :
    Calls Ybad.prog 6 #[.string s] w fun e w' => (∃ N, e = .returned (.tuple #[.int .i64 0, .iface 55 (.pointer (some ⟨N, 0, none⟩))])) ∧ Below w.heap.size w w' := by
  have H0 : 0 < w.heap.size := World.block_lt_of_cell? _ _ hr
  have HA : a.block < w.heap.size := (Array.getElem?_eq_some_iff.1 ha).1
  have HBB : b.block < w.heap.size := (Array.getElem?_eq_some_iff.1 hb).1
  have HR := Lib.hid hr
  have HPR := Lib.hid hpr
  have HHA := Lib.hid ha
  have HHB := Lib.hid hb
  have HAB := Lib.hid hab
  clear hr hpr ha hb hab
  go_enter Ybad.func6, Ybad.ntmps6
  go_wp2_with (first | (go_at_call 9; refine HPR.out.mono ?_; rintro e w1 ⟨N, rfl, hN, hcell, hb⟩; have hc := (hb.cell (p := ⟨0, 0, none⟩) H0).trans HR.out; have hn := num_cell hcell; have HB := Lib.hid hb; clear hb hcell) | (go_at_call 10; refine (is_num_other N b a ca cb ta tb _ ?_ ?_ ?_ ?_).mono ?_; exact hn; exact HAB.out; exact (HB.out.block _ HA).trans HHA.out; exact (HB.out.block _ HBB).trans HHB.out; rintro e w2 ⟨rfl, rfl⟩))
  go_ret2
  exact ⟨⟨_, rfl⟩, HB.out⟩
end Go.Proofs.YbulkbkcuDoor
