/- 'Rows.LawS3049ABuiltCardSaid': the row proved (after the guide's MaAllProofs.lean), the card closed by the builder's one call. -/
import Derived.Test.YbulkbkcuDoorRows
import Derived.Test.YbulkbkcuDoorTie
import Derived.Test.YbulkbkcuDoorCards
import Derived.Test.YbulkbkcuDoorLaid
import Derived.Test.YbulkbkcuDoorBuilt
import Derived.SizedLaws
import Derived.ChangeSame
import Derived.ChangeVars
import Derived.ChangeMaps5
import Derived.JoinedOf
import Derived.JoinedAt
import Derived.RowKit
import Derived.RowKit3
import Derived.RowKitTokens
import Derived.LaidLaws
import Derived.SevenTiedAt
import Derived.OpenShut
import Derived.Lib.SmallJoins
import Derived.Below
import Derived.Carry
namespace Go.Proofs.YbulkbkcuDoor
open Go.ChangeShapes Go.WideShapes Go.ChangeAt Go.RowKit Go.Joins

/-- The walk, whatever the sign and the digits. -/
theorem built_all (sg : Int) (ao : Option Addr) (len cap : Nat) (g : Nat → Int) (w : World) (h0 : 0 ≤ sg) (h1 : sg ≤ 255) (hc : 0 < len → ∃ b off, ao = some ⟨b, off, none⟩ ∧ ∀ j, j < len → w.cell? ⟨b, off + j, none⟩ = some (.int .u8 (g j))) (hg : ∀ j, j < len → 0 ≤ g j ∧ g j ≤ 255)
    (pb pa : Addr) (cb ca : Array Value) (tb ta : TypeId) (hE : Errs w pb pa cb ca tb ta) :
    Calls Ybad.prog 4 #[.agg #[.int .u8 sg, .slice ao len cap]] w fun e w' => e = .returned (.bool true) ∧ Below w.heap.size w w' := by
  by_cases hbig : 1024 < len
  · have hb : (1024 : Int) < (len : Int) := by omega
    clear hc hg hE
    go_enter Ybad.func4, Ybad.ntmps4
    go_wp2
    go_ret
    exact ⟨rfl, (Below.refl _ _).alloc (Nat.le_refl _) _⟩
  · have h3 : sg % 3 = 0 ∨ sg % 3 = 1 ∨ sg % 3 = 2 := by omega
    by_cases hz : len = 0
    · subst hz
      rcases h3 with h3 | h3 | h3
      · exact built_bare0 sg ao cap g w h0 h1 h3 pb pa cb ca tb ta hE
      · exact built_neg0 sg ao cap g w h0 h1 h3 pb pa cb ca tb ta hE
      · exact built_plus0 sg ao cap g w h0 h1 h3 pb pa cb ca tb ta hE
    · obtain ⟨b, off, rfl, hcell⟩ := hc (by omega)
      rcases h3 with h3 | h3 | h3
      · exact built_bare sg b off len cap g w h0 h1 h3 (by omega) (by omega) hcell hg pb pa cb ca tb ta hE
      · exact built_neg sg b off len cap g w h0 h1 h3 (by omega) (by omega) hcell hg pb pa cb ca tb ta hE
      · exact built_plus sg b off len cap g w h0 h1 h3 (by omega) (by omega) hcell hg pb pa cb ca tb ta hE

set_option maxRecDepth 100000 in
theorem built_lifted (os : Os) (started : os.Started) (H : Type) (enc : TypeId × Value → H) :
    ReturnsInHanded {} Ybad.checked os 4 .any (fun w args => (Rows.lawS3049ABuiltSpec.pre enc Ybad.prog Ybad.f4 Rows.lawS3049ABuiltRow.domain false w args ∧ laidMet Ybad.prog Rows.lawS3049ABuiltRow.laid w) ∧ sizedMet enc Ybad.prog Ybad.f4 (OpenSpec.ofChange Rows.lawS3049ABuiltSpec) false w args)
      (Rows.lawS3049ABuiltSpec.post enc Ybad.prog Ybad.f4 false true false false) := by
  refine returnsInHanded_of_change_and (C := Ybad.checked) (X := fun w _ => laidMet Ybad.prog Rows.lawS3049ABuiltRow.laid w) (fun _ _ _ hh h => h.of_heap hh) Ybad.own started (by kernel_rfl) Ybad.func4
    (ChangeSpec.witness_at (enc := enc) (C := Ybad.checked) (os := os) (X := fun w _ => laidMet Ybad.prog Rows.lawS3049ABuiltRow.laid w) false (laidWorld Ybad.prog (World.holding Ybad.prog default ⟨#[], #[], []⟩).heap.size os) #[.agg #[.int .u8 0, .slice none 0 0]] 8 rfl (by kernel_rfl) (by kernel_rfl) (by kernel_rfl) (by kernel_rfl) (by kernel_rfl) (laidWorld_met os _)) ?_
  intro W base args ds gs before hval0 hW _ _ hL _
  have hval : ∀ (j : Nat) t v, Ybad.f4.params[j]? = some t → args[j]? = some v → Value.okWide Ybad.prog W .any base t v := hval0
  have hW' := hW
  obtain ⟨p, q, hA0, hV, rfl, _, _⟩ := hW
  have hA : DataW.TrodAll enc Ybad.prog W 0 (fun _ => true) true Ybad.f4.params.toList args.toList ds p := hA0
  rw [Ybad.params4] at hA hval
  obtain ⟨v0, d0, rfl, rfl, h0⟩ := trodAll_one hA
  obtain ⟨rfl, rfl⟩ := trodVars_none hV
  have k0 := h0
  have lt0 : ∀ x ∈ p, x.block < W.heap.size := by obtain ⟨m, hm⟩ := k0; exact DataW.trod_lt m _ _ _ hm
  obtain ⟨c0, c1, y0, y1, m, rfl, rfl, rfl, hy0, hy1⟩ := open_agg2 Ybad.underlying31 (by kernel_rfl) (by kernel_rfl) (hval 0 31 v0 rfl rfl) h0
  obtain ⟨sg, e0, rfl, wsg⟩ := DataW.trod_int Ybad.underlying5 hy0
  obtain rfl : c0 = .int .u8 sg := by simpa using e0
  clear hA0 hval0 e0
  obtain ⟨_, b, a, cb, ca, tb, ta, hr, hsy, hne, hb, ha⟩ := of_laid hL
  have hsg := bounds_u8 wsg
  have hE : Errs W b a cb ca tb ta := ⟨hr, hsy, hne, hb, ha⟩
  have hwalk : Calls Ybad.prog 4 #[.agg #[.int .u8 sg, c1]] W fun e w' => e = .returned (.bool true) ∧ Below W.heap.size W w' := by
    rcases open_ints Ybad.underlying29 Ybad.underlying5 (by kernel_rfl) hy1 with ⟨hcs, _⟩ | ⟨x, l, c, zs, hcs, _, hl, hm, hz, _, hcell, hwz⟩
    · obtain rfl : c1 = .slice none 0 0 := by simpa using hcs
      exact built_all sg none 0 0 (fun _ => 0) W hsg.1 hsg.2 (fun h => absurd h (Nat.lt_irrefl _)) (fun j hj => absurd hj (Nat.not_lt_zero _)) b a cb ca tb ta hE
    · obtain rfl : c1 = .slice (some x) l c := by simpa using hcs
      refine built_all sg (some x) l c (fun i => zs.getD i 0) W hsg.1 hsg.2 ?_ ?_ b a cb ca tb ta hE
      · intro hpos
        obtain ⟨xb, xo, sp⟩ := x
        have hzl : l ≤ zs.length := by rw [hz]; split <;> omega
        have hsp : sp = none := by simpa [Addr.add] using World.cell?_spot (hcell 0 (by omega))
        subst hsp
        exact ⟨xb, xo, rfl, fun j hj => by rw [← add_plain]; exact hcell j (by omega)⟩
      · intro j hj
        have hzl : l ≤ zs.length := by rw [hz]; split <;> omega
        have hm2 : zs.getD j 0 ∈ zs := by
          rw [List.getD_eq_getElem?_getD, List.getElem?_eq_getElem (by omega)]
          exact List.getElem_mem _
        exact bounds_u8 (hwz _ hm2)
  refine hwalk.mono fun e W' ⟨he, hnx⟩ => ?_
  subst he
  exact ⟨_, rfl, _, _, _, [], _, [], hW', trodAll_mk1 (shut_bool Ybad.underlying4 _), trodAll_mk1 (Below.trod Ybad.laidOut (by kernel_rfl) (of_decide_eq_true (by kernel_rfl)) k0 hnx lt0), rfl, hnx.frame _, fun h => by cases h⟩

theorem built_row : Rows.LawS3049ABuiltSaid :=
  OpenClaim.holds_of_wide 4 Ybad.f4 rfl rfl rfl rfl rfl rfl rfl ⟨rfl, rfl, rfl, rfl, rfl⟩ rfl rfl rfl rfl rfl (by kernel_rfl) Ybad.func4 (by kernel_rfl)
    (of_decide_eq_true (by kernel_rfl)) (by unfold Func.isWrapper; first | (rw [if_pos (by decide +kernel)]; kernel_rfl) | (rw [if_neg (by decide +kernel)]; exact ⟨rfl, rfl⟩))
    (fun os started H enc _ => built_lifted os started H enc)

theorem lawS3049ABuilt_card : Rows.LawS3049ABuiltCardSaid :=
  Claim7.holds_tied_plain_at .later [] [.data, .data, .data, .sentinel, .sentinel] true _ true
    built_row (fun _ h => by cases h) (by kernel_rfl) (fun _ h => by cases h) lawS3049ABuilt_row_tie rfl ⟨rfl, rfl⟩ (by kernel_rfl) rfl
    (fun f fn hf hfn => by
      obtain rfl : f = 4 := Option.some.inj ((show Ybad.prog.funcNamed Rows.lawS3049ABuiltRow.func = some 4 by kernel_rfl).symm.trans hf) |>.symm
      obtain rfl : fn = Ybad.f4 := (Option.some.inj (Ybad.func4.symm.trans hfn)).symm
      exact ⟨by kernel_rfl, fun j t ht => by
        rw [Ybad.params4] at ht
        have h3 : t = 31 := by
          rcases j with _ | j
          · simpa using ht.symm
          · simp at ht
        subst h3
        exact (show Ybad.prog.wantsStandIn 31 = false by kernel_rfl)⟩)
    (by kernel_rfl)
end Go.Proofs.YbulkbkcuDoor
