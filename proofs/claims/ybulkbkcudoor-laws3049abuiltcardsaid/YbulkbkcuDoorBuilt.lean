/- The walk of LawS3049ABuilt. -/
import Derived.Test.YbulkbkcuDoorCallees
namespace Go.Proofs.YbulkbkcuDoor
open Go.RowKit Go.Shelf

theorem Ybad.infoByte : (Ybad.prog.info? 5).map (fun i => (i.zero, i.size, i.bytes)) = some (some (.int .u8 0), 1, 1) := by kernel_rfl
/-- The byte that is appended for a digit. -/
def dgt (n : Int) : UInt8 := UInt8.ofNat (48 + (n % 10).toNat)
theorem dgt_nat (n : Int) : ((dgt n).toNat : Int) = 48 + n % 10 := by
  unfold dgt
  rw [UInt8.toNat_ofNat']
  omega
theorem dgt_dig (n : Int) : Plain.Dig (dgt n) := by
  unfold dgt Plain.Dig
  rw [UInt8.toNat_ofNat']
  omega
/-- The digits' bytes. -/
def dgts (g : Nat → Int) (n : Nat) : List UInt8 := (List.range n).map fun j => dgt (g j)
theorem dgts_length (g : Nat → Int) (n : Nat) : (dgts g n).length = n := by simp [dgts]
theorem dgts_succ (g : Nat → Int) (n : Nat) : dgts g (n + 1) = dgts g n ++ [dgt (g n)] := by
  unfold dgts
  rw [List.range_succ, List.map_append]
  rfl
theorem dgts_dig (g : Nat → Int) (n : Nat) : ∀ c ∈ dgts g n, Plain.Dig c := by
  intro c hc
  unfold dgts at hc
  obtain ⟨j, _, rfl⟩ := List.mem_map.1 hc
  exact dgt_dig _
theorem cells_snoc (pre : List UInt8) (g : Nat → Int) (k : Nat) : Lib.byteCells (pre ++ dgts g k) ++ [Value.int .u8 (48 + g k % 10)] = Lib.byteCells (pre ++ dgts g (k + 1)) := by
  rw [dgts_succ, ← List.append_assoc, Lib.byteCells_append (pre ++ dgts g k), ← dgt_nat]
  rfl
/-- What one more byte, appended, leaves of the loop's relation. -/
theorem owns_next {w' : World} {B P k : Nat} {v' : Value} {pre : List UInt8} {g : Nat → Int}
    (ho : w'.ownsRow B 5 1 v' (P + k + 1) (Lib.byteCells (pre ++ dgts g k) ++ [Value.int .u8 (48 + g k % 10)])) : w'.ownsRow B 5 1 v' (P + (k + 1)) (Lib.byteCells (pre ++ dgts g (k + 1))) := by
  rw [cells_snoc pre g k] at ho
  exact ho
theorem owns_next0 {w' : World} {B k : Nat} {v' : Value} {g : Nat → Int}
    (ho : w'.ownsRow B 5 1 v' (k + 1) (Lib.byteCells (dgts g k) ++ [Value.int .u8 (48 + g k % 10)])) : w'.ownsRow B 5 1 v' (k + 1) (Lib.byteCells (dgts g (k + 1))) := by
  have e := cells_snoc [] g k
  rw [List.nil_append, List.nil_append] at e
  rw [e] at ho
  exact ho
theorem one_cell {w : World} {x : Value} : ∀ j u, [x][j]? = some u → (w.alloc (.cells #[x] 5)).cell? ((⟨w.heap.size, 0, none⟩ : Addr).add j) = some u := by
  intro j u hj
  match j, hj with
  | 0, hj => simp at hj; subst hj; simp [Addr.add]
theorem below_next {W0 wr w' : World} {B : Nat} {v : Value} {o : Obj} {n : Nat} {xs : List Value} (hb : Below B W0 wr) (hB : B ≤ wr.heap.size) (ho : wr.ownsRow B 5 1 v n xs) (hg : (wr.alloc o).grownBy w' v.ownBlock) : Below B W0 w' :=
  (hb.alloc hB o).grown hg (by simp; omega) (fun k hk => (ho.lt k hk).1)

set_option maxRecDepth 100000 in
set_option maxHeartbeats 2000000 in
theorem built_neg (sg : Int) (b off len cap : Nat) (g : Nat → Int) (w : World) (h0 : 0 ≤ sg) (h1 : sg ≤ 255) (h3 : sg % 3 = 1) (hlen : 0 < len) (hl : len ≤ 1024) (hc : ∀ j, j < len → w.cell? ⟨b, off + j, none⟩ = some (.int .u8 (g j))) (hg : ∀ j, j < len → 0 ≤ g j ∧ g j ≤ 255) (pb pa : Addr) (cb ca : Array Value) (tb ta : TypeId) (hE : Errs w pb pa cb ca tb ta) :
    Calls Ybad.prog 4 #[.agg #[.int .u8 sg, .slice (some ⟨b, off, none⟩) len cap]] w fun e w' => e = .returned (.bool true) ∧ Below w.heap.size w w' := by
  obtain ⟨i0, hi, hz0, hz1, hz2⟩ := info_parts Ybad.infoByte
  have HE := Lib.hid hE
  clear hE
  have HC := Lib.hid hc
  have HG := Lib.hid hg
  have hbw : b < w.heap.size := World.block_lt_of_cell? _ _ (hc 0 hlen)
  clear hc hg
  go_enter Ybad.func4, Ybad.ntmps4
  go_wp2_with (at_make; refine wpList_make_own _ rfl _ _ 29 rfl (w.heap.size + 1) 5 i0 (.int .u8 0) 1 Ybad.underlying29 hi hz0 hz1 _ _ _ (len + 1) rfl rfl (by omega) (by rw [hz2]; omega) (by unfold maxLen; omega) (by simp) ?_; intro wm hownm hgrm; refine Hid.out ?_)
  refine Lib.hid ?_
  have hbm : Below (w.heap.size + 1) (w.alloc (.cells #[.int .u8 sg, .slice (some ⟨b, off, none⟩) len cap] 31)) wm := (Below.refl _ _).grown hgrm (by simp) (fun k hk => by cases hk)
  have ebx : (w.alloc (.cells #[.int .u8 sg, .slice (some ⟨b, off, none⟩) len cap] 31)).heap.size = w.heap.size + 1 := by simp
  rw [ebx] at hownm
  clear ebx
  have hnilm : (.slice (some ⟨w.heap.size + 1, 0, none⟩) 0 (len + 1) : Value) ≠ .slice none 0 0 := by intro h; cases h
  have hsm : (w.heap.size + 1) ≤ wm.heap.size := by have := hbm.size; simpa using this
  have HBM := Lib.hid hbm
  have HOM := Lib.hid hownm
  have HNM := Lib.hid hnilm
  have hcm : wm.cell? ⟨w.heap.size, 0, none⟩ = some (.int .u8 sg) := (hbm.cell (p := ⟨w.heap.size, 0, none⟩) (by simp)).trans (by simp)
  have hcm1 : wm.cell? ⟨w.heap.size, 1, none⟩ = some (.slice (some ⟨b, off, none⟩) len cap) := (hbm.cell (p := ⟨w.heap.size, 1, none⟩) (by simp)).trans (by simp)
  clear hbm hownm hnilm hgrm
  go_wp2_with (at_builtin; refine wpList_append_own _ rfl _ _ 29 rfl (w.heap.size + 1) 5 i0 (.int .u8 0) 1 1 Ybad.underlying29 hi hz0 hz1 hz2 rfl (by decide) _ _ _ rfl (HOM.out.alloc _) ⟨wm.heap.size, 0, none⟩ 1 1 [Value.int .u8 45] rfl rfl one_cell (by intro u' hu'; simp at hu'; subst hu'; rfl) (by unfold maxLen; omega) (by omega) (by simp; omega) ?_; intro v0 ws hown0 hgr0 hnil0; refine Hid.out ?_)
  refine Lib.hid ?_
  have hbs : Below (w.heap.size + 1) (w.alloc (.cells #[.int .u8 sg, .slice (some ⟨b, off, none⟩) len cap] 31)) ws := below_next HBM.out hsm HOM.out hgr0
  have hns : v0 ≠ .slice none 0 0 := fun h => HNM.out (hnil0.1 h).1
  have hos : ws.ownsRow (w.heap.size + 1) 5 1 v0 (1 + 0) (Lib.byteCells ([45] ++ dgts g 0)) := hown0
  have hcs1 : ws.cell? ⟨w.heap.size, 1, none⟩ = some (.slice (some ⟨b, off, none⟩) len cap) := (hbs.cell (p := ⟨w.heap.size, 1, none⟩) (by simp)).trans (by simp)
  have HBS := Lib.hid hbs
  have HNS := Lib.hid hns
  have HOS := Lib.hid hos
  clear hbs hns hos hown0 hgr0 hnil0 HBM HOM HNM hcm hcm1
  go_wp2
  clear h3
  go_loopw [3, 37] (fun v i wr => ∃ k : Nat, k ≤ len ∧ i = .int .i64 k ∧ wr.ownsRow (w.heap.size + 1) 5 1 v (1 + k) (Lib.byteCells ([45] ++ dgts g k)) ∧ v ≠ .slice none 0 0 ∧ Below (w.heap.size + 1) (w.alloc (.cells #[.int .u8 sg, .slice (some ⟨b, off, none⟩) len cap] 31)) wr)
    (fun _ i _ => len - (intOf i).toNat)
  case atStart => exact ⟨0, Nat.zero_le _, rfl, HOS.out, HNS.out, HBS.out⟩
  case round =>
    obtain ⟨k, hk, rfl, hown, hnil, hbel⟩ := hrel
    clear HOS HNS HBS hcs1 
    have HO := Lib.hid hown
    have HN := Lib.hid hnil
    have HB := Lib.hid hbel
    have hsr : (w.heap.size + 1) ≤ wr.heap.size := by have := hbel.size; simpa using this
    by_cases hlt : k < len
    · have gk := HG.out k hlt
      obtain ⟨gk0, gk1⟩ := gk
      have gc : wr.cell? ⟨b, off + k, none⟩ = some (.int .u8 (g k)) := by
        rw [hbel.cell (p := ⟨b, off + k, none⟩) (by simp; omega), World.cell?_alloc_past _ _ _ hbw]
        exact HC.out k hlt
      clear hown hnil hbel
      go_wp2_with (at_builtin; refine wpList_append_own _ rfl _ _ 29 rfl (w.heap.size + 1) 5 i0 (.int .u8 0) 1 1 Ybad.underlying29 hi hz0 hz1 hz2 rfl (by decide) _ _ _ rfl (HO.out.alloc _) ⟨wr.heap.size, 0, none⟩ 1 1 [Value.int .u8 (48 + g k % 10)] rfl rfl one_cell (by intro u' hu'; simp at hu'; subst hu'; rfl) (by unfold maxLen; omega) (by omega) (by simp; omega) ?_; intro v1 w1 hown1 hgr1 hnil1; refine Hid.out ?_)
      refine Lib.hid ?_
      have hb1 := Lib.hid (below_next HB.out hsr HO.out hgr1)
      have hn1 : Hid (v1 ≠ .slice none 0 0) := fun h => HN.out (hnil1.1 h).1
      have ho1 := Lib.hid (owns_next hown1)
      clear hown1 hgr1 hnil1 HO HN HB gc
      go_wp2
      go_roundw
      case rel => exact ⟨k + 1, by omega, by go_num, ho1.out, hn1.out, hb1.out⟩
      case measure => simp [intOf]; omega
    · have hkl : k = len := by omega
      subst hkl
      have hcx : wr.cell? ⟨w.heap.size, 1, none⟩ = some (.slice (some ⟨b, off, none⟩) k cap) := (hbel.cell (p := ⟨w.heap.size, 1, none⟩) (by simp)).trans (by simp)
      have hbw0 : Below w.heap.size w wr := ((Below.refl _ _).alloc (Nat.le_refl _) _).trans (hbel.mono (by omega))
      have HE2 := Lib.hid (HE.out.keep hbw0)
      obtain ⟨T, hT⟩ : ∃ T, T = [45] ++ dgts g k := ⟨_, rfl⟩
      have hTl : T.length = 1 + k := by rw [hT]; rw [List.length_append, dgts_length]; rfl
      have hTs : T = Plain.signed 1 (dgts g k) := hT
      rw [← hT, ← hTl] at hown
      have HT := Lib.hid hTs
      have HTL := Lib.hid hTl
      clear hT hTs hTl HO HB
      have hex : ∃ gb cp, u3 = .slice (some ⟨gb, 0, none⟩) T.length cp := by
        rcases hown.2 with ⟨h, _⟩ | ⟨gb, cp, cur, h, _⟩
        · exact absurd h HN.out
        · exact ⟨gb, cp, h⟩
      obtain ⟨gb, cp, hv⟩ := hex
      rw [hv] at hown
      rw [hv]
      have hcv := run_convert_bytes_back (P := Ybad.prog) wr 29 9 5 ⟨gb, 0, none⟩ cp T Ybad.underlying29 Ybad.underlying5 Ybad.underlying9 (fun j hj => hown.cells (g := gb) rfl j _ (by simp [Lib.byteCells, hj]))
      obtain ⟨s, hs⟩ : ∃ s : ByteArray, s = ⟨T.toArray⟩ := ⟨_, rfl⟩
      rw [← hs] at hcv
      have HS : Hid (s.data.toList = Plain.signed 1 (dgts g k)) := by rw [hs]; exact HT.out
      have hss : s.size ≤ 2000 := by rw [size_of HS.out, ← HT.out, HTL.out]; omega
      clear hs HT HTL hown HN hbel hnil
      have HB0 := Lib.hid hbw0
      clear hbw0
      obtain ⟨x, hx⟩ : ∃ x, x = Plain.want ((1 : Nat) == 1) (Plain.val 0 (dgts g k)) := ⟨_, rfl⟩
      have hne : dgts g k ≠ [] := fun h => by have := dgts_length g k; rw [h] at this; simp at this; omega
      have hcnt := count_dig s 1 _ HS.out hne (dgts_dig g k) hss pb pa cb ca tb ta wr HE2.out
      have hmod := fun w => model_dig s 1 _ HS.out hne (dgts_dig g k) hss w
      rw [← hx] at hcnt
      simp only [← hx] at hmod
      have HCN := Lib.hid hcnt
      have HMD := Lib.hid hmod
      clear hcnt hmod hx hne HS
      go_wp2_with (first | (go_at_call 6; refine HCN.out.mono ?_; rintro e w6 ⟨rfl, hb6⟩; have HB6 := Lib.hid hb6; clear hb6) | (go_at_call 7; refine (HMD.out _).mono ?_; rintro e w7 ⟨rfl, rfl⟩))
      go_ret
      exact ⟨rfl, HB0.out.trans (HB6.out.mono HB0.out.size)⟩

set_option maxRecDepth 100000 in
set_option maxHeartbeats 2000000 in
theorem built_plus (sg : Int) (b off len cap : Nat) (g : Nat → Int) (w : World) (h0 : 0 ≤ sg) (h1 : sg ≤ 255) (h3 : sg % 3 = 2) (hlen : 0 < len) (hl : len ≤ 1024) (hc : ∀ j, j < len → w.cell? ⟨b, off + j, none⟩ = some (.int .u8 (g j))) (hg : ∀ j, j < len → 0 ≤ g j ∧ g j ≤ 255) (pb pa : Addr) (cb ca : Array Value) (tb ta : TypeId) (hE : Errs w pb pa cb ca tb ta) :
    Calls Ybad.prog 4 #[.agg #[.int .u8 sg, .slice (some ⟨b, off, none⟩) len cap]] w fun e w' => e = .returned (.bool true) ∧ Below w.heap.size w w' := by
  obtain ⟨i0, hi, hz0, hz1, hz2⟩ := info_parts Ybad.infoByte
  have HE := Lib.hid hE
  clear hE
  have HC := Lib.hid hc
  have HG := Lib.hid hg
  have hbw : b < w.heap.size := World.block_lt_of_cell? _ _ (hc 0 hlen)
  clear hc hg
  go_enter Ybad.func4, Ybad.ntmps4
  go_wp2_with (at_make; refine wpList_make_own _ rfl _ _ 29 rfl (w.heap.size + 1) 5 i0 (.int .u8 0) 1 Ybad.underlying29 hi hz0 hz1 _ _ _ (len + 1) rfl rfl (by omega) (by rw [hz2]; omega) (by unfold maxLen; omega) (by simp) ?_; intro wm hownm hgrm; refine Hid.out ?_)
  refine Lib.hid ?_
  have hbm : Below (w.heap.size + 1) (w.alloc (.cells #[.int .u8 sg, .slice (some ⟨b, off, none⟩) len cap] 31)) wm := (Below.refl _ _).grown hgrm (by simp) (fun k hk => by cases hk)
  have ebx : (w.alloc (.cells #[.int .u8 sg, .slice (some ⟨b, off, none⟩) len cap] 31)).heap.size = w.heap.size + 1 := by simp
  rw [ebx] at hownm
  clear ebx
  have hnilm : (.slice (some ⟨w.heap.size + 1, 0, none⟩) 0 (len + 1) : Value) ≠ .slice none 0 0 := by intro h; cases h
  have hsm : (w.heap.size + 1) ≤ wm.heap.size := by have := hbm.size; simpa using this
  have HBM := Lib.hid hbm
  have HOM := Lib.hid hownm
  have HNM := Lib.hid hnilm
  have hcm : wm.cell? ⟨w.heap.size, 0, none⟩ = some (.int .u8 sg) := (hbm.cell (p := ⟨w.heap.size, 0, none⟩) (by simp)).trans (by simp)
  have hcm1 : wm.cell? ⟨w.heap.size, 1, none⟩ = some (.slice (some ⟨b, off, none⟩) len cap) := (hbm.cell (p := ⟨w.heap.size, 1, none⟩) (by simp)).trans (by simp)
  clear hbm hownm hnilm hgrm
  go_wp2_with (at_builtin; refine wpList_append_own _ rfl _ _ 29 rfl (w.heap.size + 1) 5 i0 (.int .u8 0) 1 1 Ybad.underlying29 hi hz0 hz1 hz2 rfl (by decide) _ _ _ rfl (HOM.out.alloc _) ⟨wm.heap.size, 0, none⟩ 1 1 [Value.int .u8 43] rfl rfl one_cell (by intro u' hu'; simp at hu'; subst hu'; rfl) (by unfold maxLen; omega) (by omega) (by simp; omega) ?_; intro v0 ws hown0 hgr0 hnil0; refine Hid.out ?_)
  refine Lib.hid ?_
  have hbs : Below (w.heap.size + 1) (w.alloc (.cells #[.int .u8 sg, .slice (some ⟨b, off, none⟩) len cap] 31)) ws := below_next HBM.out hsm HOM.out hgr0
  have hns : v0 ≠ .slice none 0 0 := fun h => HNM.out (hnil0.1 h).1
  have hos : ws.ownsRow (w.heap.size + 1) 5 1 v0 (1 + 0) (Lib.byteCells ([43] ++ dgts g 0)) := hown0
  have hcs1 : ws.cell? ⟨w.heap.size, 1, none⟩ = some (.slice (some ⟨b, off, none⟩) len cap) := (hbs.cell (p := ⟨w.heap.size, 1, none⟩) (by simp)).trans (by simp)
  have HBS := Lib.hid hbs
  have HNS := Lib.hid hns
  have HOS := Lib.hid hos
  clear hbs hns hos hown0 hgr0 hnil0 HBM HOM HNM hcm hcm1
  go_wp2
  clear h3
  go_loopw [3, 37] (fun v i wr => ∃ k : Nat, k ≤ len ∧ i = .int .i64 k ∧ wr.ownsRow (w.heap.size + 1) 5 1 v (1 + k) (Lib.byteCells ([43] ++ dgts g k)) ∧ v ≠ .slice none 0 0 ∧ Below (w.heap.size + 1) (w.alloc (.cells #[.int .u8 sg, .slice (some ⟨b, off, none⟩) len cap] 31)) wr)
    (fun _ i _ => len - (intOf i).toNat)
  case atStart => exact ⟨0, Nat.zero_le _, rfl, HOS.out, HNS.out, HBS.out⟩
  case round =>
    obtain ⟨k, hk, rfl, hown, hnil, hbel⟩ := hrel
    clear HOS HNS HBS hcs1 
    have HO := Lib.hid hown
    have HN := Lib.hid hnil
    have HB := Lib.hid hbel
    have hsr : (w.heap.size + 1) ≤ wr.heap.size := by have := hbel.size; simpa using this
    by_cases hlt : k < len
    · have gk := HG.out k hlt
      obtain ⟨gk0, gk1⟩ := gk
      have gc : wr.cell? ⟨b, off + k, none⟩ = some (.int .u8 (g k)) := by
        rw [hbel.cell (p := ⟨b, off + k, none⟩) (by simp; omega), World.cell?_alloc_past _ _ _ hbw]
        exact HC.out k hlt
      clear hown hnil hbel
      go_wp2_with (at_builtin; refine wpList_append_own _ rfl _ _ 29 rfl (w.heap.size + 1) 5 i0 (.int .u8 0) 1 1 Ybad.underlying29 hi hz0 hz1 hz2 rfl (by decide) _ _ _ rfl (HO.out.alloc _) ⟨wr.heap.size, 0, none⟩ 1 1 [Value.int .u8 (48 + g k % 10)] rfl rfl one_cell (by intro u' hu'; simp at hu'; subst hu'; rfl) (by unfold maxLen; omega) (by omega) (by simp; omega) ?_; intro v1 w1 hown1 hgr1 hnil1; refine Hid.out ?_)
      refine Lib.hid ?_
      have hb1 := Lib.hid (below_next HB.out hsr HO.out hgr1)
      have hn1 : Hid (v1 ≠ .slice none 0 0) := fun h => HN.out (hnil1.1 h).1
      have ho1 := Lib.hid (owns_next hown1)
      clear hown1 hgr1 hnil1 HO HN HB gc
      go_wp2
      go_roundw
      case rel => exact ⟨k + 1, by omega, by go_num, ho1.out, hn1.out, hb1.out⟩
      case measure => simp [intOf]; omega
    · have hkl : k = len := by omega
      subst hkl
      have hcx : wr.cell? ⟨w.heap.size, 1, none⟩ = some (.slice (some ⟨b, off, none⟩) k cap) := (hbel.cell (p := ⟨w.heap.size, 1, none⟩) (by simp)).trans (by simp)
      have hbw0 : Below w.heap.size w wr := ((Below.refl _ _).alloc (Nat.le_refl _) _).trans (hbel.mono (by omega))
      have HE2 := Lib.hid (HE.out.keep hbw0)
      obtain ⟨T, hT⟩ : ∃ T, T = [43] ++ dgts g k := ⟨_, rfl⟩
      have hTl : T.length = 1 + k := by rw [hT]; rw [List.length_append, dgts_length]; rfl
      have hTs : T = Plain.signed 2 (dgts g k) := hT
      rw [← hT, ← hTl] at hown
      have HT := Lib.hid hTs
      have HTL := Lib.hid hTl
      clear hT hTs hTl HO HB
      have hex : ∃ gb cp, u3 = .slice (some ⟨gb, 0, none⟩) T.length cp := by
        rcases hown.2 with ⟨h, _⟩ | ⟨gb, cp, cur, h, _⟩
        · exact absurd h HN.out
        · exact ⟨gb, cp, h⟩
      obtain ⟨gb, cp, hv⟩ := hex
      rw [hv] at hown
      rw [hv]
      have hcv := run_convert_bytes_back (P := Ybad.prog) wr 29 9 5 ⟨gb, 0, none⟩ cp T Ybad.underlying29 Ybad.underlying5 Ybad.underlying9 (fun j hj => hown.cells (g := gb) rfl j _ (by simp [Lib.byteCells, hj]))
      obtain ⟨s, hs⟩ : ∃ s : ByteArray, s = ⟨T.toArray⟩ := ⟨_, rfl⟩
      rw [← hs] at hcv
      have HS : Hid (s.data.toList = Plain.signed 2 (dgts g k)) := by rw [hs]; exact HT.out
      have hss : s.size ≤ 2000 := by rw [size_of HS.out, ← HT.out, HTL.out]; omega
      clear hs HT HTL hown HN hbel hnil
      have HB0 := Lib.hid hbw0
      clear hbw0
      obtain ⟨x, hx⟩ : ∃ x, x = Plain.want ((2 : Nat) == 1) (Plain.val 0 (dgts g k)) := ⟨_, rfl⟩
      have hne : dgts g k ≠ [] := fun h => by have := dgts_length g k; rw [h] at this; simp at this; omega
      have hcnt := count_dig s 2 _ HS.out hne (dgts_dig g k) hss pb pa cb ca tb ta wr HE2.out
      have hmod := fun w => model_dig s 2 _ HS.out hne (dgts_dig g k) hss w
      rw [← hx] at hcnt
      simp only [← hx] at hmod
      have HCN := Lib.hid hcnt
      have HMD := Lib.hid hmod
      clear hcnt hmod hx hne HS
      go_wp2_with (first | (go_at_call 6; refine HCN.out.mono ?_; rintro e w6 ⟨rfl, hb6⟩; have HB6 := Lib.hid hb6; clear hb6) | (go_at_call 7; refine (HMD.out _).mono ?_; rintro e w7 ⟨rfl, rfl⟩))
      go_ret
      exact ⟨rfl, HB0.out.trans (HB6.out.mono HB0.out.size)⟩

set_option maxRecDepth 100000 in
set_option maxHeartbeats 2000000 in
theorem built_bare (sg : Int) (b off len cap : Nat) (g : Nat → Int) (w : World) (h0 : 0 ≤ sg) (h1 : sg ≤ 255) (h3 : sg % 3 = 0) (hlen : 0 < len) (hl : len ≤ 1024) (hc : ∀ j, j < len → w.cell? ⟨b, off + j, none⟩ = some (.int .u8 (g j))) (hg : ∀ j, j < len → 0 ≤ g j ∧ g j ≤ 255) (pb pa : Addr) (cb ca : Array Value) (tb ta : TypeId) (hE : Errs w pb pa cb ca tb ta) :
    Calls Ybad.prog 4 #[.agg #[.int .u8 sg, .slice (some ⟨b, off, none⟩) len cap]] w fun e w' => e = .returned (.bool true) ∧ Below w.heap.size w w' := by
  obtain ⟨i0, hi, hz0, hz1, hz2⟩ := info_parts Ybad.infoByte
  have HE := Lib.hid hE
  clear hE
  have HC := Lib.hid hc
  have HG := Lib.hid hg
  have hbw : b < w.heap.size := World.block_lt_of_cell? _ _ (hc 0 hlen)
  clear hc hg
  go_enter Ybad.func4, Ybad.ntmps4
  go_wp2_with (at_make; refine wpList_make_own _ rfl _ _ 29 rfl (w.heap.size + 1) 5 i0 (.int .u8 0) 1 Ybad.underlying29 hi hz0 hz1 _ _ _ (len + 1) rfl rfl (by omega) (by rw [hz2]; omega) (by unfold maxLen; omega) (by simp) ?_; intro wm hownm hgrm; refine Hid.out ?_)
  refine Lib.hid ?_
  have hbm : Below (w.heap.size + 1) (w.alloc (.cells #[.int .u8 sg, .slice (some ⟨b, off, none⟩) len cap] 31)) wm := (Below.refl _ _).grown hgrm (by simp) (fun k hk => by cases hk)
  have ebx : (w.alloc (.cells #[.int .u8 sg, .slice (some ⟨b, off, none⟩) len cap] 31)).heap.size = w.heap.size + 1 := by simp
  rw [ebx] at hownm
  clear ebx
  have hnilm : (.slice (some ⟨w.heap.size + 1, 0, none⟩) 0 (len + 1) : Value) ≠ .slice none 0 0 := by intro h; cases h
  have hcm : wm.cell? ⟨w.heap.size, 0, none⟩ = some (.int .u8 sg) := (hbm.cell (p := ⟨w.heap.size, 0, none⟩) (by simp)).trans (by simp)
  have hcs1 : wm.cell? ⟨w.heap.size, 1, none⟩ = some (.slice (some ⟨b, off, none⟩) len cap) := (hbm.cell (p := ⟨w.heap.size, 1, none⟩) (by simp)).trans (by simp)
  have HBS := Lib.hid hbm
  have HNS := Lib.hid hnilm
  have HOS : Hid (wm.ownsRow (w.heap.size + 1) 5 1 _ 0 (Lib.byteCells (dgts g 0))) := hownm
  clear hbm hownm hnilm hgrm
  go_wp2
  clear h3
  go_loopw [3, 37] (fun v i wr => ∃ k : Nat, k ≤ len ∧ i = .int .i64 k ∧ wr.ownsRow (w.heap.size + 1) 5 1 v k (Lib.byteCells (dgts g k)) ∧ v ≠ .slice none 0 0 ∧ Below (w.heap.size + 1) (w.alloc (.cells #[.int .u8 sg, .slice (some ⟨b, off, none⟩) len cap] 31)) wr)
    (fun _ i _ => len - (intOf i).toNat)
  case atStart => exact ⟨0, Nat.zero_le _, rfl, HOS.out, HNS.out, HBS.out⟩
  case round =>
    obtain ⟨k, hk, rfl, hown, hnil, hbel⟩ := hrel
    clear HOS HNS HBS hcs1 hcm
    have HO := Lib.hid hown
    have HN := Lib.hid hnil
    have HB := Lib.hid hbel
    have hsr : (w.heap.size + 1) ≤ wr.heap.size := by have := hbel.size; simpa using this
    by_cases hlt : k < len
    · have gk := HG.out k hlt
      obtain ⟨gk0, gk1⟩ := gk
      have gc : wr.cell? ⟨b, off + k, none⟩ = some (.int .u8 (g k)) := by
        rw [hbel.cell (p := ⟨b, off + k, none⟩) (by simp; omega), World.cell?_alloc_past _ _ _ hbw]
        exact HC.out k hlt
      clear hown hnil hbel
      go_wp2_with (at_builtin; refine wpList_append_own _ rfl _ _ 29 rfl (w.heap.size + 1) 5 i0 (.int .u8 0) 1 1 Ybad.underlying29 hi hz0 hz1 hz2 rfl (by decide) _ _ _ rfl (HO.out.alloc _) ⟨wr.heap.size, 0, none⟩ 1 1 [Value.int .u8 (48 + g k % 10)] rfl rfl one_cell (by intro u' hu'; simp at hu'; subst hu'; rfl) (by unfold maxLen; omega) (by omega) (by simp; omega) ?_; intro v1 w1 hown1 hgr1 hnil1; refine Hid.out ?_)
      refine Lib.hid ?_
      have hb1 := Lib.hid (below_next HB.out hsr HO.out hgr1)
      have hn1 : Hid (v1 ≠ .slice none 0 0) := fun h => HN.out (hnil1.1 h).1
      have ho1 := Lib.hid (owns_next0 hown1)
      clear hown1 hgr1 hnil1 HO HN HB gc
      go_wp2
      go_roundw
      case rel => exact ⟨k + 1, by omega, by go_num, ho1.out, hn1.out, hb1.out⟩
      case measure => simp [intOf]; omega
    · have hkl : k = len := by omega
      subst hkl
      have hcx : wr.cell? ⟨w.heap.size, 1, none⟩ = some (.slice (some ⟨b, off, none⟩) k cap) := (hbel.cell (p := ⟨w.heap.size, 1, none⟩) (by simp)).trans (by simp)
      have hbw0 : Below w.heap.size w wr := ((Below.refl _ _).alloc (Nat.le_refl _) _).trans (hbel.mono (by omega))
      have HE2 := Lib.hid (HE.out.keep hbw0)
      obtain ⟨T, hT⟩ : ∃ T, T = dgts g k := ⟨_, rfl⟩
      have hTl : T.length = k := by rw [hT]; rw [dgts_length]
      have hTs : T = Plain.signed 0 (dgts g k) := hT
      rw [← hT, ← hTl] at hown
      have HT := Lib.hid hTs
      have HTL := Lib.hid hTl
      clear hT hTs hTl HO HB
      have hex : ∃ gb cp, u3 = .slice (some ⟨gb, 0, none⟩) T.length cp := by
        rcases hown.2 with ⟨h, _⟩ | ⟨gb, cp, cur, h, _⟩
        · exact absurd h HN.out
        · exact ⟨gb, cp, h⟩
      obtain ⟨gb, cp, hv⟩ := hex
      rw [hv] at hown
      rw [hv]
      have hcv := run_convert_bytes_back (P := Ybad.prog) wr 29 9 5 ⟨gb, 0, none⟩ cp T Ybad.underlying29 Ybad.underlying5 Ybad.underlying9 (fun j hj => hown.cells (g := gb) rfl j _ (by simp [Lib.byteCells, hj]))
      obtain ⟨s, hs⟩ : ∃ s : ByteArray, s = ⟨T.toArray⟩ := ⟨_, rfl⟩
      rw [← hs] at hcv
      have HS : Hid (s.data.toList = Plain.signed 0 (dgts g k)) := by rw [hs]; exact HT.out
      have hss : s.size ≤ 2000 := by rw [size_of HS.out, ← HT.out, HTL.out]; omega
      clear hs HT HTL hown HN hbel hnil
      have HB0 := Lib.hid hbw0
      clear hbw0
      obtain ⟨x, hx⟩ : ∃ x, x = Plain.want ((0 : Nat) == 1) (Plain.val 0 (dgts g k)) := ⟨_, rfl⟩
      have hne : dgts g k ≠ [] := fun h => by have := dgts_length g k; rw [h] at this; simp at this; omega
      have hcnt := count_dig s 0 _ HS.out hne (dgts_dig g k) hss pb pa cb ca tb ta wr HE2.out
      have hmod := fun w => model_dig s 0 _ HS.out hne (dgts_dig g k) hss w
      rw [← hx] at hcnt
      simp only [← hx] at hmod
      have HCN := Lib.hid hcnt
      have HMD := Lib.hid hmod
      clear hcnt hmod hx hne HS
      go_wp2_with (first | (go_at_call 6; refine HCN.out.mono ?_; rintro e w6 ⟨rfl, hb6⟩; have HB6 := Lib.hid hb6; clear hb6) | (go_at_call 7; refine (HMD.out _).mono ?_; rintro e w7 ⟨rfl, rfl⟩))
      go_ret
      exact ⟨rfl, HB0.out.trans (HB6.out.mono HB0.out.size)⟩

set_option maxRecDepth 100000 in
set_option maxHeartbeats 2000000 in
theorem built_neg0 (sg : Int) (ao : Option Addr) (cap : Nat) (g : Nat → Int) (w : World) (h0 : 0 ≤ sg) (h1 : sg ≤ 255) (h3 : sg % 3 = 1) (pb pa : Addr) (cb ca : Array Value) (tb ta : TypeId) (hE : Errs w pb pa cb ca tb ta) :
    Calls Ybad.prog 4 #[.agg #[.int .u8 sg, .slice ao 0 cap]] w fun e w' => e = .returned (.bool true) ∧ Below w.heap.size w w' := by
  obtain ⟨i0, hi, hz0, hz1, hz2⟩ := info_parts Ybad.infoByte
  have HE := Lib.hid hE
  clear hE
  go_enter Ybad.func4, Ybad.ntmps4
  go_wp2_with (at_make; refine wpList_make_own _ rfl _ _ 29 rfl (w.heap.size + 1) 5 i0 (.int .u8 0) 1 Ybad.underlying29 hi hz0 hz1 _ _ _ 1 rfl rfl (by omega) (by rw [hz2]; omega) (by unfold maxLen; omega) (by simp) ?_; intro wm hownm hgrm; refine Hid.out ?_)
  refine Lib.hid ?_
  have hbm : Below (w.heap.size + 1) (w.alloc (.cells #[.int .u8 sg, .slice ao 0 cap] 31)) wm := (Below.refl _ _).grown hgrm (by simp) (fun k hk => by cases hk)
  have ebx : (w.alloc (.cells #[.int .u8 sg, .slice ao 0 cap] 31)).heap.size = w.heap.size + 1 := by simp
  rw [ebx] at hownm
  clear ebx
  have hnilm : (.slice (some ⟨w.heap.size + 1, 0, none⟩) 0 1 : Value) ≠ .slice none 0 0 := by intro h; cases h
  have hsm : (w.heap.size + 1) ≤ wm.heap.size := by have := hbm.size; simpa using this
  have HBM := Lib.hid hbm
  have HOM := Lib.hid hownm
  have HNM := Lib.hid hnilm
  have hcm : wm.cell? ⟨w.heap.size, 0, none⟩ = some (.int .u8 sg) := (hbm.cell (p := ⟨w.heap.size, 0, none⟩) (by simp)).trans (by simp)
  have hcm1 : wm.cell? ⟨w.heap.size, 1, none⟩ = some (.slice ao 0 cap) := (hbm.cell (p := ⟨w.heap.size, 1, none⟩) (by simp)).trans (by simp)
  clear hbm hownm hnilm hgrm
  go_wp2_with (at_builtin; refine wpList_append_own _ rfl _ _ 29 rfl (w.heap.size + 1) 5 i0 (.int .u8 0) 1 1 Ybad.underlying29 hi hz0 hz1 hz2 rfl (by decide) _ _ _ rfl (HOM.out.alloc _) ⟨wm.heap.size, 0, none⟩ 1 1 [Value.int .u8 45] rfl rfl one_cell (by intro u' hu'; simp at hu'; subst hu'; rfl) (by unfold maxLen; omega) (by omega) (by simp; omega) ?_; intro v0 ws hown0 hgr0 hnil0; refine Hid.out ?_)
  refine Lib.hid ?_
  have hbs : Below (w.heap.size + 1) (w.alloc (.cells #[.int .u8 sg, .slice ao 0 cap] 31)) ws := below_next HBM.out hsm HOM.out hgr0
  have hns : v0 ≠ .slice none 0 0 := fun h => HNM.out (hnil0.1 h).1
  have hos : ws.ownsRow (w.heap.size + 1) 5 1 v0 (1 + 0) (Lib.byteCells ([45] ++ dgts g 0)) := hown0
  have hcs1 : ws.cell? ⟨w.heap.size, 1, none⟩ = some (.slice ao 0 cap) := (hbs.cell (p := ⟨w.heap.size, 1, none⟩) (by simp)).trans (by simp)
  have HBS := Lib.hid hbs
  have HNS := Lib.hid hns
  have HOS := Lib.hid hos
  clear hbs hns hos hown0 hgr0 hnil0 HBM HOM HNM hcm hcm1
  go_wp2
  clear h3
  go_loopw [3, 37] (fun v i wr => ∃ k : Nat, k ≤ 0 ∧ i = .int .i64 k ∧ wr.ownsRow (w.heap.size + 1) 5 1 v (1 + k) (Lib.byteCells ([45] ++ dgts g k)) ∧ v ≠ .slice none 0 0 ∧ Below (w.heap.size + 1) (w.alloc (.cells #[.int .u8 sg, .slice ao 0 cap] 31)) wr)
    (fun _ i _ => 0 - (intOf i).toNat)
  case atStart => exact ⟨0, Nat.zero_le _, rfl, HOS.out, HNS.out, HBS.out⟩
  case round =>
    obtain ⟨k, hk, rfl, hown, hnil, hbel⟩ := hrel
    clear HOS HNS HBS hcs1 
    have HO := Lib.hid hown
    have HN := Lib.hid hnil
    have HB := Lib.hid hbel
    have hsr : (w.heap.size + 1) ≤ wr.heap.size := by have := hbel.size; simpa using this
    have hkl : k = 0 := by omega
    subst hkl
    have hcx : wr.cell? ⟨w.heap.size, 1, none⟩ = some (.slice ao 0 cap) := (hbel.cell (p := ⟨w.heap.size, 1, none⟩) (by simp)).trans (by simp)
    have hbw0 : Below w.heap.size w wr := ((Below.refl _ _).alloc (Nat.le_refl _) _).trans (hbel.mono (by omega))
    have HE2 := Lib.hid (HE.out.keep hbw0)
    obtain ⟨T, hT⟩ : ∃ T, T = [45] ++ dgts g 0 := ⟨_, rfl⟩
    have hTl : T.length = 1 + 0 := by rw [hT]; rw [List.length_append, dgts_length]; rfl
    have hTs : T = Plain.signed 1 (dgts g 0) := hT
    rw [← hT, ← hTl] at hown
    have HT := Lib.hid hTs
    have HTL := Lib.hid hTl
    clear hT hTs hTl HO HB
    have hex : ∃ gb cp, u3 = .slice (some ⟨gb, 0, none⟩) T.length cp := by
      rcases hown.2 with ⟨h, _⟩ | ⟨gb, cp, cur, h, _⟩
      · exact absurd h HN.out
      · exact ⟨gb, cp, h⟩
    obtain ⟨gb, cp, hv⟩ := hex
    rw [hv] at hown
    rw [hv]
    have hcv := run_convert_bytes_back (P := Ybad.prog) wr 29 9 5 ⟨gb, 0, none⟩ cp T Ybad.underlying29 Ybad.underlying5 Ybad.underlying9 (fun j hj => hown.cells (g := gb) rfl j _ (by simp [Lib.byteCells, hj]))
    obtain ⟨s, hs⟩ : ∃ s : ByteArray, s = ⟨T.toArray⟩ := ⟨_, rfl⟩
    rw [← hs] at hcv
    have HS : Hid (s.data.toList = Plain.signed 1 (dgts g 0)) := by rw [hs]; exact HT.out
    have hss : s.size ≤ 2000 := by rw [size_of HS.out, ← HT.out, HTL.out]; omega
    clear hs HT HTL hown HN hbel hnil
    have HB0 := Lib.hid hbw0
    clear hbw0
    go_wp2_with (first | (go_at_call 6; refine (count_no s 1 HS.out hss pb pa cb ca tb ta _ HE2.out).mono ?_; rintro e w6 ⟨⟨N, rfl⟩, hb6⟩; have HB6 := Lib.hid hb6; have hc6 := (hb6.cell (p := ⟨w.heap.size, 1, none⟩) (by show w.heap.size < wr.heap.size; omega)).trans hcx; clear hb6) | (go_at_call 7; refine (model_no s 1 HS.out _).mono ?_; rintro e w7 ⟨rfl, rfl⟩))
    go_ret
    exact ⟨rfl, HB0.out.trans (HB6.out.mono HB0.out.size)⟩

set_option maxRecDepth 100000 in
set_option maxHeartbeats 2000000 in
theorem built_plus0 (sg : Int) (ao : Option Addr) (cap : Nat) (g : Nat → Int) (w : World) (h0 : 0 ≤ sg) (h1 : sg ≤ 255) (h3 : sg % 3 = 2) (pb pa : Addr) (cb ca : Array Value) (tb ta : TypeId) (hE : Errs w pb pa cb ca tb ta) :
    Calls Ybad.prog 4 #[.agg #[.int .u8 sg, .slice ao 0 cap]] w fun e w' => e = .returned (.bool true) ∧ Below w.heap.size w w' := by
  obtain ⟨i0, hi, hz0, hz1, hz2⟩ := info_parts Ybad.infoByte
  have HE := Lib.hid hE
  clear hE
  go_enter Ybad.func4, Ybad.ntmps4
  go_wp2_with (at_make; refine wpList_make_own _ rfl _ _ 29 rfl (w.heap.size + 1) 5 i0 (.int .u8 0) 1 Ybad.underlying29 hi hz0 hz1 _ _ _ 1 rfl rfl (by omega) (by rw [hz2]; omega) (by unfold maxLen; omega) (by simp) ?_; intro wm hownm hgrm; refine Hid.out ?_)
  refine Lib.hid ?_
  have hbm : Below (w.heap.size + 1) (w.alloc (.cells #[.int .u8 sg, .slice ao 0 cap] 31)) wm := (Below.refl _ _).grown hgrm (by simp) (fun k hk => by cases hk)
  have ebx : (w.alloc (.cells #[.int .u8 sg, .slice ao 0 cap] 31)).heap.size = w.heap.size + 1 := by simp
  rw [ebx] at hownm
  clear ebx
  have hnilm : (.slice (some ⟨w.heap.size + 1, 0, none⟩) 0 1 : Value) ≠ .slice none 0 0 := by intro h; cases h
  have hsm : (w.heap.size + 1) ≤ wm.heap.size := by have := hbm.size; simpa using this
  have HBM := Lib.hid hbm
  have HOM := Lib.hid hownm
  have HNM := Lib.hid hnilm
  have hcm : wm.cell? ⟨w.heap.size, 0, none⟩ = some (.int .u8 sg) := (hbm.cell (p := ⟨w.heap.size, 0, none⟩) (by simp)).trans (by simp)
  have hcm1 : wm.cell? ⟨w.heap.size, 1, none⟩ = some (.slice ao 0 cap) := (hbm.cell (p := ⟨w.heap.size, 1, none⟩) (by simp)).trans (by simp)
  clear hbm hownm hnilm hgrm
  go_wp2_with (at_builtin; refine wpList_append_own _ rfl _ _ 29 rfl (w.heap.size + 1) 5 i0 (.int .u8 0) 1 1 Ybad.underlying29 hi hz0 hz1 hz2 rfl (by decide) _ _ _ rfl (HOM.out.alloc _) ⟨wm.heap.size, 0, none⟩ 1 1 [Value.int .u8 43] rfl rfl one_cell (by intro u' hu'; simp at hu'; subst hu'; rfl) (by unfold maxLen; omega) (by omega) (by simp; omega) ?_; intro v0 ws hown0 hgr0 hnil0; refine Hid.out ?_)
  refine Lib.hid ?_
  have hbs : Below (w.heap.size + 1) (w.alloc (.cells #[.int .u8 sg, .slice ao 0 cap] 31)) ws := below_next HBM.out hsm HOM.out hgr0
  have hns : v0 ≠ .slice none 0 0 := fun h => HNM.out (hnil0.1 h).1
  have hos : ws.ownsRow (w.heap.size + 1) 5 1 v0 (1 + 0) (Lib.byteCells ([43] ++ dgts g 0)) := hown0
  have hcs1 : ws.cell? ⟨w.heap.size, 1, none⟩ = some (.slice ao 0 cap) := (hbs.cell (p := ⟨w.heap.size, 1, none⟩) (by simp)).trans (by simp)
  have HBS := Lib.hid hbs
  have HNS := Lib.hid hns
  have HOS := Lib.hid hos
  clear hbs hns hos hown0 hgr0 hnil0 HBM HOM HNM hcm hcm1
  go_wp2
  clear h3
  go_loopw [3, 37] (fun v i wr => ∃ k : Nat, k ≤ 0 ∧ i = .int .i64 k ∧ wr.ownsRow (w.heap.size + 1) 5 1 v (1 + k) (Lib.byteCells ([43] ++ dgts g k)) ∧ v ≠ .slice none 0 0 ∧ Below (w.heap.size + 1) (w.alloc (.cells #[.int .u8 sg, .slice ao 0 cap] 31)) wr)
    (fun _ i _ => 0 - (intOf i).toNat)
  case atStart => exact ⟨0, Nat.zero_le _, rfl, HOS.out, HNS.out, HBS.out⟩
  case round =>
    obtain ⟨k, hk, rfl, hown, hnil, hbel⟩ := hrel
    clear HOS HNS HBS hcs1 
    have HO := Lib.hid hown
    have HN := Lib.hid hnil
    have HB := Lib.hid hbel
    have hsr : (w.heap.size + 1) ≤ wr.heap.size := by have := hbel.size; simpa using this
    have hkl : k = 0 := by omega
    subst hkl
    have hcx : wr.cell? ⟨w.heap.size, 1, none⟩ = some (.slice ao 0 cap) := (hbel.cell (p := ⟨w.heap.size, 1, none⟩) (by simp)).trans (by simp)
    have hbw0 : Below w.heap.size w wr := ((Below.refl _ _).alloc (Nat.le_refl _) _).trans (hbel.mono (by omega))
    have HE2 := Lib.hid (HE.out.keep hbw0)
    obtain ⟨T, hT⟩ : ∃ T, T = [43] ++ dgts g 0 := ⟨_, rfl⟩
    have hTl : T.length = 1 + 0 := by rw [hT]; rw [List.length_append, dgts_length]; rfl
    have hTs : T = Plain.signed 2 (dgts g 0) := hT
    rw [← hT, ← hTl] at hown
    have HT := Lib.hid hTs
    have HTL := Lib.hid hTl
    clear hT hTs hTl HO HB
    have hex : ∃ gb cp, u3 = .slice (some ⟨gb, 0, none⟩) T.length cp := by
      rcases hown.2 with ⟨h, _⟩ | ⟨gb, cp, cur, h, _⟩
      · exact absurd h HN.out
      · exact ⟨gb, cp, h⟩
    obtain ⟨gb, cp, hv⟩ := hex
    rw [hv] at hown
    rw [hv]
    have hcv := run_convert_bytes_back (P := Ybad.prog) wr 29 9 5 ⟨gb, 0, none⟩ cp T Ybad.underlying29 Ybad.underlying5 Ybad.underlying9 (fun j hj => hown.cells (g := gb) rfl j _ (by simp [Lib.byteCells, hj]))
    obtain ⟨s, hs⟩ : ∃ s : ByteArray, s = ⟨T.toArray⟩ := ⟨_, rfl⟩
    rw [← hs] at hcv
    have HS : Hid (s.data.toList = Plain.signed 2 (dgts g 0)) := by rw [hs]; exact HT.out
    have hss : s.size ≤ 2000 := by rw [size_of HS.out, ← HT.out, HTL.out]; omega
    clear hs HT HTL hown HN hbel hnil
    have HB0 := Lib.hid hbw0
    clear hbw0
    go_wp2_with (first | (go_at_call 6; refine (count_no s 2 HS.out hss pb pa cb ca tb ta _ HE2.out).mono ?_; rintro e w6 ⟨⟨N, rfl⟩, hb6⟩; have HB6 := Lib.hid hb6; have hc6 := (hb6.cell (p := ⟨w.heap.size, 1, none⟩) (by show w.heap.size < wr.heap.size; omega)).trans hcx; clear hb6) | (go_at_call 7; refine (model_no s 2 HS.out _).mono ?_; rintro e w7 ⟨rfl, rfl⟩))
    go_ret
    exact ⟨rfl, HB0.out.trans (HB6.out.mono HB0.out.size)⟩

set_option maxRecDepth 100000 in
set_option maxHeartbeats 2000000 in
theorem built_bare0 (sg : Int) (ao : Option Addr) (cap : Nat) (g : Nat → Int) (w : World) (h0 : 0 ≤ sg) (h1 : sg ≤ 255) (h3 : sg % 3 = 0) (pb pa : Addr) (cb ca : Array Value) (tb ta : TypeId) (hE : Errs w pb pa cb ca tb ta) :
    Calls Ybad.prog 4 #[.agg #[.int .u8 sg, .slice ao 0 cap]] w fun e w' => e = .returned (.bool true) ∧ Below w.heap.size w w' := by
  obtain ⟨i0, hi, hz0, hz1, hz2⟩ := info_parts Ybad.infoByte
  have HE := Lib.hid hE
  clear hE
  go_enter Ybad.func4, Ybad.ntmps4
  go_wp2_with (at_make; refine wpList_make_own _ rfl _ _ 29 rfl (w.heap.size + 1) 5 i0 (.int .u8 0) 1 Ybad.underlying29 hi hz0 hz1 _ _ _ 1 rfl rfl (by omega) (by rw [hz2]; omega) (by unfold maxLen; omega) (by simp) ?_; intro wm hownm hgrm; refine Hid.out ?_)
  refine Lib.hid ?_
  have hbm : Below (w.heap.size + 1) (w.alloc (.cells #[.int .u8 sg, .slice ao 0 cap] 31)) wm := (Below.refl _ _).grown hgrm (by simp) (fun k hk => by cases hk)
  have ebx : (w.alloc (.cells #[.int .u8 sg, .slice ao 0 cap] 31)).heap.size = w.heap.size + 1 := by simp
  rw [ebx] at hownm
  clear ebx
  have hnilm : (.slice (some ⟨w.heap.size + 1, 0, none⟩) 0 1 : Value) ≠ .slice none 0 0 := by intro h; cases h
  have hcm : wm.cell? ⟨w.heap.size, 0, none⟩ = some (.int .u8 sg) := (hbm.cell (p := ⟨w.heap.size, 0, none⟩) (by simp)).trans (by simp)
  have hcs1 : wm.cell? ⟨w.heap.size, 1, none⟩ = some (.slice ao 0 cap) := (hbm.cell (p := ⟨w.heap.size, 1, none⟩) (by simp)).trans (by simp)
  have HBS := Lib.hid hbm
  have HNS := Lib.hid hnilm
  have HOS : Hid (wm.ownsRow (w.heap.size + 1) 5 1 _ 0 (Lib.byteCells (dgts g 0))) := hownm
  clear hbm hownm hnilm hgrm
  go_wp2
  clear h3
  go_loopw [3, 37] (fun v i wr => ∃ k : Nat, k ≤ 0 ∧ i = .int .i64 k ∧ wr.ownsRow (w.heap.size + 1) 5 1 v k (Lib.byteCells (dgts g k)) ∧ v ≠ .slice none 0 0 ∧ Below (w.heap.size + 1) (w.alloc (.cells #[.int .u8 sg, .slice ao 0 cap] 31)) wr)
    (fun _ i _ => 0 - (intOf i).toNat)
  case atStart => exact ⟨0, Nat.zero_le _, rfl, HOS.out, HNS.out, HBS.out⟩
  case round =>
    obtain ⟨k, hk, rfl, hown, hnil, hbel⟩ := hrel
    clear HOS HNS HBS hcs1 hcm
    have HO := Lib.hid hown
    have HN := Lib.hid hnil
    have HB := Lib.hid hbel
    have hsr : (w.heap.size + 1) ≤ wr.heap.size := by have := hbel.size; simpa using this
    have hkl : k = 0 := by omega
    subst hkl
    have hcx : wr.cell? ⟨w.heap.size, 1, none⟩ = some (.slice ao 0 cap) := (hbel.cell (p := ⟨w.heap.size, 1, none⟩) (by simp)).trans (by simp)
    have hbw0 : Below w.heap.size w wr := ((Below.refl _ _).alloc (Nat.le_refl _) _).trans (hbel.mono (by omega))
    have HE2 := Lib.hid (HE.out.keep hbw0)
    obtain ⟨T, hT⟩ : ∃ T, T = dgts g 0 := ⟨_, rfl⟩
    have hTl : T.length = 0 := by rw [hT]; rw [dgts_length]
    have hTs : T = Plain.signed 0 (dgts g 0) := hT
    rw [← hT, ← hTl] at hown
    have HT := Lib.hid hTs
    have HTL := Lib.hid hTl
    clear hT hTs hTl HO HB
    have hex : ∃ gb cp, u3 = .slice (some ⟨gb, 0, none⟩) T.length cp := by
      rcases hown.2 with ⟨h, _⟩ | ⟨gb, cp, cur, h, _⟩
      · exact absurd h HN.out
      · exact ⟨gb, cp, h⟩
    obtain ⟨gb, cp, hv⟩ := hex
    rw [hv] at hown
    rw [hv]
    have hcv := run_convert_bytes_back (P := Ybad.prog) wr 29 9 5 ⟨gb, 0, none⟩ cp T Ybad.underlying29 Ybad.underlying5 Ybad.underlying9 (fun j hj => hown.cells (g := gb) rfl j _ (by simp [Lib.byteCells, hj]))
    obtain ⟨s, hs⟩ : ∃ s : ByteArray, s = ⟨T.toArray⟩ := ⟨_, rfl⟩
    rw [← hs] at hcv
    have HS : Hid (s.data.toList = Plain.signed 0 (dgts g 0)) := by rw [hs]; exact HT.out
    have hss : s.size ≤ 2000 := by rw [size_of HS.out, ← HT.out, HTL.out]; omega
    clear hs HT HTL hown HN hbel hnil
    have HB0 := Lib.hid hbw0
    clear hbw0
    go_wp2_with (first | (go_at_call 6; refine (count_no s 0 HS.out hss pb pa cb ca tb ta _ HE2.out).mono ?_; rintro e w6 ⟨⟨N, rfl⟩, hb6⟩; have HB6 := Lib.hid hb6; have hc6 := (hb6.cell (p := ⟨w.heap.size, 1, none⟩) (by show w.heap.size < wr.heap.size; omega)).trans hcx; clear hb6) | (go_at_call 7; refine (model_no s 0 HS.out _).mono ?_; rintro e w7 ⟨rfl, rfl⟩))
    go_ret
    exact ⟨rfl, HB0.out.trans (HB6.out.mono HB0.out.size)⟩

end Go.Proofs.YbulkbkcuDoor
