/- What the rows' cell 'laid' gives a walk; a world that meets it. -/
import Derived.Test.YbulkbkcuDoorRows
import Derived.Test.YbulkbkcuDoorTrip
import Derived.Stop.LaidTwo
import Derived.Stop.LaidErr
import Derived.Lib.LaidTab
import Derived.LaidLaws
import Derived.SizedLaws
import Derived.JoinedAt
namespace Go.Proofs.YbulkbkcuDoor
open Go.RowKit Go.ChangeAt

theorem Ybad.own : ownKnob Ybad.prog.godebug = none := by kernel_rfl
theorem Ybad.laidOut : laidOutB Ybad.prog = true := by kernel_rfl
theorem Ybad.cells9 : Ybad.prog.cellsOf 9 = 1 := by kernel_rfl
theorem Ybad.cells85 : Ybad.prog.cellsOf 85 = 1 := by kernel_rfl
theorem Ybad.cells38 : Ybad.prog.cellsOf 38 = 1 := by kernel_rfl
theorem Ybad.cells71 : Ybad.prog.cellsOf 71 = 20 := by kernel_rfl
theorem Ybad.gER : Ybad.prog.globalNamed "strconv.ErrRange" = some 0 := by kernel_rfl
theorem Ybad.gERType : (Ybad.prog.globals[0]?).map (·.type) = some 23 := by kernel_rfl
theorem Ybad.gES : Ybad.prog.globalNamed "strconv.ErrSyntax" = some 2 := by kernel_rfl
theorem Ybad.gESType : (Ybad.prog.globals[2]?).map (·.type) = some 23 := by kernel_rfl
theorem Ybad.gTab : Ybad.prog.globalNamed powName = some 1 := by kernel_rfl
theorem Ybad.gTabType : (Ybad.prog.globals[1]?).map (·.type) = some 71 := by kernel_rfl

/-- The sentinels' type's name, as the rows list it. -/
def starName : String := match Rows.laid_strconv_ErrRange (H := Unit) with | .iface nm _ => nm | _ => default
theorem Ybad.row83 (u : TypeId) (h : Ybad.prog.typeName? 3 u = some starName) : u = 83 :=
  typeName_ptr_named (nm := "errors.errorString") (by kernel_rfl) (by kernel_rfl) (by decide) u (h.trans (congrArg some (by decide)))

theorem tab_eq : Rows.laid_internal_strconv_uint64pow10 (H := Unit) = Lib.tabData .u64 Lib.pow10Tab := by rfl

/-- WHAT THE LIST GIVES. -/
theorem of_laid {W : World} (h : laidMet Ybad.prog Rows.lawS3049ARoundTripRow.laid W) :
    Lib.TabIs Ybad.prog W powName .u64 Lib.pow10Tab ∧ ∃ (b a : Addr) (cb ca : Array Value) (tb ta : TypeId), W.cell? ⟨0, 0, none⟩ = some (.iface 83 (.pointer (some b))) ∧ W.cell? ⟨2, 0, none⟩ = some (.iface 83 (.pointer (some a))) ∧ b ≠ a ∧
      W.heap[b.block]? = some (.cells cb tb (0, 0)) ∧ W.heap[a.block]? = some (.cells ca ta (0, 0)) := by
  have h2 := laidMet.tail (laidMet.tail h)
  have h3 := laidMet.tail h2
  refine ⟨Lib.tabIs_of_head Ybad.gTab Ybad.gTabType Ybad.underlying71 Ybad.underlying38 Ybad.cells38 Ybad.cells71 (by rw [← tab_eq]; exact h2), ?_⟩
  obtain ⟨b, a, s0, s1, c0, c1, t0, t1, hv0, hv1, _, _, _, _, _, _, hne, hb0, hb1⟩ := laid_sentinels2 h3 Ybad.gER Ybad.gERType Ybad.gES Ybad.gESType Ybad.underlying23 Ybad.row83 Ybad.underlying83 Ybad.underlying85 rfl rfl Ybad.underlying9 Ybad.cells85 Ybad.cells9
  exact ⟨b, a, c0, c1, t0, t1, by simpa using World.var?_cell Ybad.gER hv0 0, by simpa using World.var?_cell Ybad.gES hv1 0, hne, hb0, hb1⟩

/-! ### One start that fits -/
def synS : ByteArray := { data := #[105, 110, 118, 97, 108, 105, 100, 32, 115, 121, 110, 116, 97, 120] }
def rngS : ByteArray := { data := #[118, 97, 108, 117, 101, 32, 111, 117, 116, 32, 111, 102, 32, 114, 97, 110, 103, 101] }
/-- A block's cells, put in the place of what it holds. -/
def relay (cs : Array Value) : Obj → Obj
  | .cells _ t frozen => .cells cs t frozen
  | o => o
/-- A table's cells, off the rows' own datum. -/
def cellsOfTab : DataW Unit → Array Value
  | .agg l => (l.map fun | .lit (.int k n) => Value.int k n | _ => .nilIface).toArray
  | _ => #[]
/-- The settled world with two blocks more, each an errors.errorString, and the five variables laid. -/
def laidWorld (P : Program) (low : Nat) (os : Os) : World :=
  let w0 := World.holding P os ⟨#[.cells #[.string rngS] 85, .cells #[.string synS] 85], #[], []⟩
  { w0 with heap := ((((w0.heap.modify 0 (relay #[.iface 83 (.pointer (some ⟨low, 0, none⟩))])).modify 2 (relay #[.iface 83 (.pointer (some ⟨low + 1, 0, none⟩))])).modify 1 (relay (cellsOfTab Rows.laid_internal_strconv_uint64pow10))).modify 3 (relay (cellsOfTab Rows.laid_math_bits_deBruijn32tab))).modify 4 (relay (cellsOfTab Rows.laid_math_bits_deBruijn64tab)) }
theorem laidWorld_met (os : Os) (args : Array Value) : laidMet Ybad.prog Rows.lawS3049ARoundTripRow.laid ((laidWorld Ybad.prog (World.holding Ybad.prog default ⟨#[], #[], []⟩).heap.size os).forCall (fun _ _ => 0) ⟨#[], args, []⟩).memory :=
  laidMet_of_run' 8 (by kernel_rfl) (by kernel_rfl)
end Go.Proofs.YbulkbkcuDoor
