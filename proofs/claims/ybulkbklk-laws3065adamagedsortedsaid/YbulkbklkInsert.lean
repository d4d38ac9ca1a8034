/- zzs3065ainsert by its contract. -/
import Derived.Test.YbulkbklkRows
import Derived.Test.YbulkbklkPlain
import Derived.Sort.OwnSorted
import Derived.Laws.CopyOwn
import Derived.Laws.OwnMore
import Derived.Deep.RegionLaw
import Derived.WalkKit
import Derived.WalkSpells
import Derived.WalkLawsBesides
import Derived.Lib.Hide
import Derived.Sort.Walk0
namespace Go.Proofs.Ybulkbklk
open Go.RowKit

theorem Yba.info9' : (Yba.prog.info? 9).map (fun i => (i.zero, i.size, i.bytes)) = some (some (.string ⟨#[]⟩), 1, 16) := by kernel_rfl
theorem Yba.size9 : (Yba.prog.info? 9).map (·.size) = some 1 := by kernel_rfl

/-- A cell of an owned row of strings. -/
theorem row_cell {w : World} {g n : Nat} {cur : Array Value} {ss : List Str} (hb : w.heap[g]? = some (.cells cur 9 (0, 0))) (h4 : cur.toList.take n = ss.map encStr) (k : Nat) (hk : k < n) (hs : k < ss.length) : w.cell? ⟨g, k, none⟩ = some (encStr ss[k]) := by
  have h1 : (cur.toList.take n)[k]? = (ss.map encStr)[k]? := by rw [h4]
  rw [List.getElem?_take_of_lt hk] at h1
  simp only [World.cell?, hb]
  simp only [Option.isSome_none, Bool.false_eq_true, if_false]
  rw [← Array.getElem?_toList, h1]
  simp [hs]
theorem less_of (x y : ByteArray) : Op.bytesLess x.toList y.toList = decide (x.data.toList < y.data.toList) := by
  rw [bytesLess_eq, Lib.toList_data, Lib.toList_data]

/-- A slice that owns and is not nil, laid open. -/
theorem own_form {w : World} {base m : Nat} {v : Value} {xs : List Value} (h : w.ownsRow base 9 1 v m xs) (hn : v ≠ .slice none 0 0) :
    ∃ g cap cur, v = .slice (some ⟨g, 0, none⟩) m cap ∧ base ≤ g ∧ w.heap[g]? = some (.cells cur 9 (0, 0)) ∧ m ≤ cap ∧ cap ≤ maxLen ∧ cur.size = cap ∧ cur.toList.take m = xs := by
  rcases h.2 with ⟨h, _⟩ | ⟨g, cap, cur, hv, hb, hg, h1, h2, h3, h4⟩
  · exact absurd h hn
  · exact ⟨g, cap, cur, hv, hb, hg, h1, h2, by simpa using h3, by simpa using h4⟩
theorem cell_form {w : World} {g j : Nat} {cur : Array Value} (hb : w.heap[g]? = some (.cells cur 9 (0, 0))) (hj : j < cur.size) : ∃ u, w.cell? ⟨g, j, none⟩ = some u :=
  ⟨cur[j], by simp [World.cell?, hb, hj]⟩
theorem src_form {w : World} {g n k : Nat} {cur : Array Value} {ss : List Str} (hb : w.heap[g]? = some (.cells cur 9 (0, 0))) (ht : cur.toList.take (n + 1) = ss.map encStr ++ [.string ⟨#[]⟩]) (hn : n = ss.length) {j : Nat} {v : Value} (hj : ((ss.drop k).map encStr)[j]? = some v) :
    w.cell? ((⟨g, k, none⟩ : Addr).add j) = some v := by
  have e : (⟨g, k, none⟩ : Addr).add j = ⟨g, k + j, none⟩ := by simp [Addr.add]
  rw [e]
  have hjl : k + j < ss.length := by
    have := (List.getElem?_eq_some_iff.1 hj).1
    simp at this; omega
  have h1 : (cur.toList.take (n + 1))[k + j]? = (ss.map encStr ++ [.string ⟨#[]⟩])[k + j]? := by rw [ht]
  rw [List.getElem?_take_of_lt (by omega), List.getElem?_append_left (by simpa using hjl)] at h1
  have h2 : (ss.map encStr)[k + j]? = some v := by
    rw [← hj]; simp [List.getElem?_drop]
  simp only [World.cell?, hb]
  simp only [Option.isSome_none, Bool.false_eq_true, if_false]
  rw [← Array.getElem?_toList, h1, h2]

theorem splice_row {L : List Value} {ss : List Str} {n k : Nat} {z e : Value} (hn : n = ss.length) (hk : k ≤ n) (ht : L.take (n + 1) = ss.map encStr ++ [z]) (hl : n + 1 ≤ L.length) :
    ((splice L (k + 1) ((ss.drop k).map encStr)).take (n + 1)).set k e = (ss.take k).map encStr ++ e :: (ss.drop k).map encStr := by
  have e1 : (splice L (k + 1) ((ss.drop k).map encStr)).take (n + 1) = L.take (k + 1) ++ (ss.drop k).map encStr := by
    unfold splice
    rw [← List.append_assoc, List.take_append_of_le_length (by simp; omega)]
    exact List.take_of_length_le (by simp; omega)
  have e2 : L.take (k + 1) = (ss.map encStr ++ [z]).take (k + 1) := by rw [← ht, List.take_take]; congr 1; omega
  rw [e1, List.set_eq_take_append_cons_drop, if_pos (by simp; omega), e2]
  congr 1
  · rw [List.take_append_of_le_length (by simp; omega), List.take_take, Nat.min_eq_left (by omega), List.take_append_of_le_length (by simp; omega), List.map_take]
  · congr 1
    rw [List.drop_append]
    have : ((ss.map encStr ++ [z]).take (k + 1)).length = k + 1 := by simp; omega
    rw [this]; simp

theorem row_end {w : World} {base g n k cap : Nat} {cur : Array Value} {ss : List Str} {z : Value} {xb : ByteArray} {CS : List Value} (hbase : base ≤ g) (hCS : CS = (ss.drop k).map encStr)
    (hg : w.heap[g]? = some (.cells (splice cur.toList (k + 1) CS).toArray 9 (0, 0))) (hfit : k + 1 + CS.length ≤ cur.toList.length) (hn : n = ss.length) (hk : k ≤ n) (ht : cur.toList.take (n + 1) = ss.map encStr ++ [z])
    (hc : n + 1 ≤ cap) (hm : cap ≤ maxLen) (hz : cur.size = cap) {R : List Str} (hI : R = ss.take k ++ xb.data.toList :: ss.drop k) :
    (w.setCell ⟨g, k, none⟩ (.string xb)).ownsRow base 9 1 (.slice (some ⟨g, 0, none⟩) (n + 1) cap) R.length (R.map encStr) := by
  subst hCS
  have hRl : R.length = n + 1 := by rw [hI]; simp; omega
  have h0 : w.ownsRow base 9 1 (.slice (some ⟨g, 0, none⟩) (n + 1) cap) (n + 1) ((splice cur.toList (k + 1) ((ss.drop k).map encStr)).take (n + 1)) :=
    ⟨by rw [List.length_take, length_splice _ _ _ hfit]; simp; omega, .inr ⟨g, cap, _, rfl, hbase, hg, hc, hm, by rw [List.size_toArray, length_splice _ _ _ hfit]; simp [hz], by simp⟩⟩
  have h1 := (h0.stored k (.string xb)).1
  rw [splice_row hn hk ht (by simp; omega)] at h1
  rw [hRl, hI]
  have he : encStr xb.data.toList = .string xb := by cases xb; simp [encStr]
  rw [List.map_append, List.map_cons, he]
  exact h1
theorem frozen_row {w : World} {g k : Nat} {cur : Array Value} (hg : w.heap[g]? = some (.cells cur 9 (0, 0))) : w.frozen? ⟨g, k, none⟩ = false := by
  simp [World.frozen?, hg]

set_option maxRecDepth 100000 in
set_option maxHeartbeats 1000000 in
theorem insert_some (base g cap : Nat) (cur : Array Value) (ss : List Str) (xb : ByteArray) (w : World) (hbase : base ≤ g) (hb : w.heap[g]? = some (.cells cur 9 (0, 0))) (h1 : ss.length ≤ cap) (h2 : cap ≤ maxLen) (h3 : cur.size = cap) (h4 : cur.toList.take ss.length = ss.map encStr) (hB : base ≤ w.heap.size) (hlen : ss.length ≤ 2000) :
    Calls Yba.prog 6 #[.slice (some ⟨g, 0, none⟩) ss.length cap, .string xb] w fun e w' => ∃ v', e = .returned v' ∧ w'.ownsRow base 9 1 v' (ins xb.data.toList ss).length ((ins xb.data.toList ss).map encStr) ∧ Below base w w' := by
  obtain ⟨i0, hi, hz0, hz1, hz2⟩ := info_parts Yba.info9'
  have hown : w.ownsRow base 9 1 (.slice (some ⟨g, 0, none⟩) ss.length cap) ss.length (ss.map encStr) := ⟨by simp, .inr ⟨g, cap, cur, rfl, hbase, hb, h1, h2, by rw [h3, Nat.mul_one], by rw [Nat.mul_one]; exact h4⟩⟩
  obtain ⟨n, hn⟩ : ∃ n, n = ss.length := ⟨_, rfl⟩
  have HC : Hid (∀ k (h : k < ss.length), w.cell? ⟨g, k, none⟩ = some (encStr ss[k])) := fun k h => row_cell hb h4 k h h
  rw [← hn] at hown h1 h4 hlen ⊢
  have HO := Lib.hid hown
  have HN := Lib.hid hn
  have HH1 := Lib.hid h1
  clear hown hb h3 h4 hn h2
  go_enter Yba.func6, Yba.ntmps6
  go_wp2
  go_loop [5] (fun i => ∃ k : Nat, k ≤ n ∧ i = .int .i64 k ∧ Hid (∀ j (h : j < ss.length), j < k → ss[j] < xb.data.toList)) (fun i => n - (intOf i).toNat)
  case atStart => exact ⟨0, Nat.zero_le _, rfl, fun j h hj => absurd hj (Nat.not_lt_zero _)⟩
  case round =>
    obtain ⟨k, hk, rfl, HL⟩ := hrel
    by_cases hlt : k < n
    · have hks : k < ss.length := by rw [← HN.out]; exact hlt
      obtain ⟨a, ha⟩ : ∃ a : ByteArray, a = ⟨(ss[k]'hks).toArray⟩ := ⟨_, rfl⟩
      have gc : w.cell? ⟨g, k, none⟩ = some (.string a) := by rw [ha]; exact HC.out k hks
      have hal : a.data.toList = ss[k] := by rw [ha]
      have HAL := Lib.hid hal
      have hq : (k : Int) < (n : Int) := by omega
      by_cases hls : ss[k] < xb.data.toList
      · have hb : Op.bytesLess a.toList xb.toList = true := by rw [less_of, hal]; simpa using hls
        have HLS := Lib.hid hls
        clear ha hal hls HO HC HH1
        go_wp2
        go_round
        case rel => exact ⟨k + 1, by omega, by go_num, fun j h hj => by
                        by_cases e : j = k
                        · subst e; exact HLS.out
                        · exact HL.out j h (by omega)⟩
        case measure => simp [intOf]; omega
      · have hb : Op.bytesLess a.toList xb.toList = false := by rw [less_of, hal]; simpa using hls
        by_cases heq : ss[k] = xb.data.toList
        · have he : (a.toList == xb.toList) = true := by rw [Lib.toList_data, Lib.toList_data, hal, heq]; simp
          have HI : Hid (ins xb.data.toList ss = ss) := (ins_at xb.data.toList ss k (by omega) HL.out (fun _ => hls)).1 ⟨hks, heq⟩
          clear ha hal hls heq HC HH1
          go_wp2
          go_ret
          exact ⟨_, rfl, by rw [HI.out, ← HN.out]; exact HO.out, Below.refl _ _⟩
        · have he : (a.toList == xb.toList) = false := by rw [Lib.toList_data, Lib.toList_data, hal]; simpa using heq
          have HI : Hid (ins xb.data.toList ss = ss.take k ++ xb.data.toList :: ss.drop k) := (ins_at xb.data.toList ss k (by omega) HL.out (fun _ => hls)).2 (fun ⟨_, h⟩ => heq h)
          clear ha hal hls heq
          go_wp2_with (at_builtin; refine wpList_append_own _ rfl _ _ 22 rfl base 9 i0 (.string ⟨#[]⟩) 1 16 Yba.underlying22 hi hz0 hz1 hz2 rfl (by decide) _ _ _ rfl (HO.out.alloc _) ⟨w.heap.size, 0, none⟩ 1 1 [.string ⟨#[]⟩] rfl rfl (cell_one_new _ _ _) (by simp [Value.oneCell']) (by unfold maxLen; omega) (by omega) (by simp; omega) ?_; intro v1 w1 hown1 hg1 hnil1; refine Hid.out ?_)
          refine Lib.hid ?_
          have hbel1 : Below base w w1 := ((Below.refl base w).alloc hB _).grown hg1 (by simp; omega) (fun j hj => (HO.out.lt j hj).1)
          have hnn : v1 ≠ .slice none 0 0 := fun h => by have := (hnil1.1 h).2; omega
          obtain ⟨g1, cap1, cur1, hv1, hbase1, hgb1, hc1, hm1, hz, ht⟩ := own_form hown1 hnn
          have hcell1 : ∀ j, j < n + 1 → ∃ u, w1.cell? ⟨g1, j, none⟩ = some u := fun j hj => cell_form hgb1 (by omega)
          have HT := Lib.hid ht
          have HB1 := Lib.hid hbel1
          obtain ⟨CS, hCS⟩ : ∃ CS, CS = (ss.drop k).map encStr := ⟨_, rfl⟩
          have hCl : CS.length = n - k := by rw [hCS, List.length_map, List.length_drop, ← HN.out]
          have hsrc : ∀ j v, CS[j]? = some v → w1.cell? ((⟨g1, k, none⟩ : Addr).add j) = some v := fun j v hj => by rw [hCS] at hj; exact src_form hgb1 ht HN.out hj
          have hone : ∀ v ∈ CS, v.oneCell' = true := fun v hv => by rw [hCS] at hv; obtain ⟨y, _, rfl⟩ := List.mem_map.1 hv; rfl
          have HCS := Lib.hid hCS
          have hgl : w1.heap[g1]? = some (.cells cur1.toList.toArray 9 (0, 0)) := by simpa using hgb1
          have HGL := Lib.hid hgl
          have HSRC := Lib.hid hsrc
          have HONE := Lib.hid hone
          have HCL := Lib.hid hCl
          have hfit : k + 1 + CS.length ≤ cur1.toList.length := by rw [hCl, Array.length_toList]; omega
          have HFIT := Lib.hid hfit
          clear hown1 hg1 hnil1 hnn hgb1 ht hbel1 hCS hgl hsrc hone hCl hfit hcell1
          rw [hv1]
          have hwr : IntKind.i64.wrap ((k : Int) + 1) = (k : Int) + 1 := by rw [IntKind.wrap_i64]; omega
          have hp0 : (0 : Int) ≤ (k : Int) + 1 := by omega
          have hp1 : (k : Int) + 1 ≤ ((n + 1 : Nat) : Int) := by omega
          have hp2 : ((k : Int) + 1).toNat = k + 1 := by omega
          have hp3 : (k : Int) ≤ ((n + 1 : Nat) : Int) := by omega
          have hp4 : (k : Int) ≤ (n : Int) + 1 := by omega
          have hp5 : (k : Int) ≤ (n : Int) := by omega
          go_wp2
          have hd1 : cap1 = k + 1 → False := by omega
          have hd2 : cap1 = k → False := by omega
          have hd1' : ¬ cap1 = k + 1 := hd1
          have hd2' : ¬ cap1 = k := hd2
          have HN2 : Hid (CS.length = Nat.min (n + 1 - k) (n - k)) := by
            rw [HCL.out, Nat.min_eq_min]; unfold Hid; omega
          have HSRC' : Hid (∀ j v, CS[j]? = some v → w1.drew.cell? ((⟨g1, k, none⟩ : Addr).add j) = some v) := HSRC
          have HB1' : Hid (Below base w w1.drew) := HB1.drew
          go_region_law (refine step_copy_splice rfl (.tmp 39) (.tmp 42) 22 22 rfl 9 Yba.underlying22 Yba.size9 (some ⟨g1, k + 1, none⟩) (some ⟨g1, k, none⟩) (n - k) (cap1 - (k + 1)) (n + 1 - k) (cap1 - k) (by simp [Act.eval, Act.put]) (by simp [Act.eval, Act.put]) g1 (k + 1) cur1.toList 9 HGL.out CS HN2.out (fun _ => ⟨rfl, _, rfl, HSRC'.out⟩) HFIT.out HONE.out base w HB1'.out hbase1 ?_; intro w4 hg4 hb4)
          have hsz4 : k < (splice cur1.toList (k + 1) CS).toArray.size := by
            rw [List.size_toArray, length_splice _ _ _ HFIT.out, Array.length_toList]; omega
          obtain ⟨u, hu4⟩ := cell_form hg4.out hsz4
          have hf4 : w4.frozen? ⟨g1, k, none⟩ = false := frozen_row hg4.out
          have HHB := Lib.hid hb4
          clear hsz4
          go_wp2
          go_ret
          have hI := HI.out
          exact ⟨_, rfl, row_end hbase1 HCS.out hg4.out HFIT.out HN.out hk HT.out hc1 hm1 hz hI, HHB.out.setCell hbase1 _⟩
    · have HI : Hid (ins xb.data.toList ss = ss.take k ++ xb.data.toList :: ss.drop k) := (ins_at xb.data.toList ss k (by have := HN.out; omega) HL.out (fun h => absurd h (by have := HN.out; omega))).2 (fun ⟨h, _⟩ => absurd h (by have := HN.out; omega))
      have hkn : k = n := by omega
      subst hkn
      go_wp2_with (at_builtin; refine wpList_append_own _ rfl _ _ 22 rfl base 9 i0 (.string ⟨#[]⟩) 1 16 Yba.underlying22 hi hz0 hz1 hz2 rfl (by decide) _ _ _ rfl (HO.out.alloc _) ⟨w.heap.size, 0, none⟩ 1 1 [.string ⟨#[]⟩] rfl rfl (cell_one_new _ _ _) (by simp [Value.oneCell']) (by unfold maxLen; omega) (by omega) (by simp; omega) ?_; intro v1 w1 hown1 hg1 hnil1; refine Hid.out ?_)
      refine Lib.hid ?_
      have hbel1 : Below base w w1 := ((Below.refl base w).alloc hB _).grown hg1 (by simp; omega) (fun j hj => (HO.out.lt j hj).1)
      have hnn : v1 ≠ .slice none 0 0 := fun h => by have := (hnil1.1 h).2; omega
      obtain ⟨g1, cap1, cur1, hv1, hbase1, hgb1, hc1, hm1, hz, ht⟩ := own_form hown1 hnn
      have hcell1 : ∀ j, j < k + 1 → ∃ u, w1.cell? ⟨g1, j, none⟩ = some u := fun j hj => cell_form hgb1 (by omega)
      have HT := Lib.hid ht
      have HB1 := Lib.hid hbel1
      obtain ⟨CS, hCS⟩ : ∃ CS, CS = (ss.drop k).map encStr := ⟨_, rfl⟩
      have hCl : CS.length = k - k := by rw [hCS, List.length_map, List.length_drop, ← HN.out]
      have hsrc : ∀ j v, CS[j]? = some v → w1.cell? ((⟨g1, k, none⟩ : Addr).add j) = some v := fun j v hj => by rw [hCS] at hj; exact src_form hgb1 ht HN.out hj
      have hone : ∀ v ∈ CS, v.oneCell' = true := fun v hv => by rw [hCS] at hv; obtain ⟨y, _, rfl⟩ := List.mem_map.1 hv; rfl
      have HCS := Lib.hid hCS
      have hgl : w1.heap[g1]? = some (.cells cur1.toList.toArray 9 (0, 0)) := by simpa using hgb1
      have HGL := Lib.hid hgl
      have HSRC := Lib.hid hsrc
      have HONE := Lib.hid hone
      have HCL := Lib.hid hCl
      have hfit : k + 1 + CS.length ≤ cur1.toList.length := by rw [hCl, Array.length_toList]; omega
      have HFIT := Lib.hid hfit
      clear hown1 hg1 hnil1 hnn hgb1 ht hbel1 hCS hgl hsrc hone hCl hfit hcell1
      rw [hv1]
      have hwr : IntKind.i64.wrap ((k : Int) + 1) = (k : Int) + 1 := by rw [IntKind.wrap_i64]; omega
      have hp0 : (0 : Int) ≤ (k : Int) + 1 := by omega
      have hp1 : (k : Int) + 1 ≤ ((k + 1 : Nat) : Int) := by omega
      have hp2 : ((k : Int) + 1).toNat = k + 1 := by omega
      have hp3 : (k : Int) ≤ ((k + 1 : Nat) : Int) := by omega
      have hp4 : (k : Int) ≤ (k : Int) + 1 := by omega
      have hp5 : (k : Int) ≤ (k : Int) := by omega
      go_wp2
      have hd2' : ¬ cap1 = k := by omega
      have HSRC' : Hid (∀ j v, CS[j]? = some v → w1.drew.cell? ((⟨g1, k, none⟩ : Addr).add j) = some v) := HSRC
      have HB1' : Hid (Below base w w1.drew) := HB1.drew
      have HC0 : Hid (CS.length = 0) := by rw [HCL.out]; unfold Hid; omega
      have hsub : k + 1 - k = 1 := by omega
      by_cases hcc : cap1 = k + 1
      · subst hcc
        go_region_law (refine step_copy_splice rfl (.tmp 39) (.tmp 42) 22 22 rfl 9 Yba.underlying22 Yba.size9 (some ⟨g1, 0, none⟩) (some ⟨g1, k, none⟩) 0 0 1 1 (by simp [Act.eval, Act.put]) (by simp [Act.eval, Act.put]) g1 (k + 1) cur1.toList 9 HGL.out CS (HC0.out.trans rfl) (fun h => absurd h (by rw [HC0.out]; exact Nat.lt_irrefl 0)) HFIT.out HONE.out base w HB1'.out hbase1 ?_; intro w4 hg4 hb4)
        have hsz4 : k < (splice cur1.toList (k + 1) CS).toArray.size := by
          rw [List.size_toArray, length_splice _ _ _ HFIT.out, Array.length_toList]; omega
        obtain ⟨u, hu4⟩ := cell_form hg4.out hsz4
        have hf4 : w4.frozen? ⟨g1, k, none⟩ = false := frozen_row hg4.out
        have HHB := Lib.hid hb4
        clear hsz4
        go_wp2
        go_ret
        have hI := HI.out
        exact ⟨_, rfl, row_end hbase1 HCS.out hg4.out HFIT.out HN.out hk HT.out hc1 hm1 hz hI, HHB.out.setCell hbase1 _⟩
      · go_region_law (refine step_copy_splice rfl (.tmp 39) (.tmp 42) 22 22 rfl 9 Yba.underlying22 Yba.size9 (some ⟨g1, k + 1, none⟩) (some ⟨g1, k, none⟩) 0 (cap1 - (k + 1)) 1 (cap1 - k) (by simp [Act.eval, Act.put]) (by simp [Act.eval, Act.put]) g1 (k + 1) cur1.toList 9 HGL.out CS (HC0.out.trans rfl) (fun h => absurd h (by rw [HC0.out]; exact Nat.lt_irrefl 0)) HFIT.out HONE.out base w HB1'.out hbase1 ?_; intro w4 hg4 hb4)
        have hsz4 : k < (splice cur1.toList (k + 1) CS).toArray.size := by
          rw [List.size_toArray, length_splice _ _ _ HFIT.out, Array.length_toList]; omega
        obtain ⟨u, hu4⟩ := cell_form hg4.out hsz4
        have hf4 : w4.frozen? ⟨g1, k, none⟩ = false := frozen_row hg4.out
        have HHB := Lib.hid hb4
        clear hsz4
        go_wp2
        go_ret
        have hI := HI.out
        exact ⟨_, rfl, row_end hbase1 HCS.out hg4.out HFIT.out HN.out hk HT.out hc1 hm1 hz hI, HHB.out.setCell hbase1 _⟩

set_option maxRecDepth 100000 in
set_option maxHeartbeats 1000000 in
theorem insert_nil (base : Nat) (xb : ByteArray) (w : World) (hB : base ≤ w.heap.size) :
    Calls Yba.prog 6 #[.slice none 0 0, .string xb] w fun e w' => ∃ v', e = .returned v' ∧ w'.ownsRow base 9 1 v' (ins xb.data.toList []).length ((ins xb.data.toList []).map encStr) ∧ Below base w w' := by
  obtain ⟨i0, hi, hz0, hz1, hz2⟩ := info_parts Yba.info9'
  obtain ⟨ss, hss⟩ : ∃ ss : List Str, ss = [] := ⟨_, rfl⟩
  have HO : Hid (w.ownsRow base 9 1 (.slice none 0 0) 0 (ss.map encStr)) := by rw [hss]; exact World.ownsRow_nil w base 9 1
  have HN : Hid (0 = ss.length) := by rw [hss]; rfl
  have HI : Hid (ins xb.data.toList ss = ss.take 0 ++ xb.data.toList :: ss.drop 0) := by rw [hss]; rfl
  rw [← hss]
  clear hss
  have hk : 0 ≤ 0 := Nat.le_refl 0
  have HK := Lib.hid hk
  clear hk
  go_enter Yba.func6, Yba.ntmps6
  go_wp2
  go_loop [5] (fun i => i = .int .i64 0) (fun _ => 0)
  case atStart => rfl
  case round =>
    subst hrel
    have hwr : IntKind.i64.wrap 1 = 1 := by decide
    go_wp2_with (at_builtin; refine wpList_append_own _ rfl _ _ 22 rfl base 9 i0 (.string ⟨#[]⟩) 1 16 Yba.underlying22 hi hz0 hz1 hz2 rfl (by decide) _ _ _ rfl (HO.out.alloc _) ⟨w.heap.size, 0, none⟩ 1 1 [.string ⟨#[]⟩] rfl rfl (cell_one_new _ _ _) (by simp [Value.oneCell']) (by unfold maxLen; omega) (by omega) (by simp; omega) ?_; intro v1 w1 hown1 hg1 hnil1; refine Hid.out ?_)
    refine Lib.hid ?_
    have hbel1 : Below base w w1 := ((Below.refl base w).alloc hB _).grown hg1 (by simp; omega) (fun j hj => (HO.out.lt j hj).1)
    have hnn : v1 ≠ .slice none 0 0 := fun h => by have := (hnil1.1 h).2; omega
    obtain ⟨g1, cap1, cur1, hv1, hbase1, hgb1, hc1, hm1, hz, ht⟩ := own_form hown1 hnn
    have hcell1 : ∀ j, j < 1 → ∃ u, w1.cell? ⟨g1, j, none⟩ = some u := fun j hj => cell_form hgb1 (by omega)
    have HT := Lib.hid ht
    have HB1 := Lib.hid hbel1
    obtain ⟨CS, hCS⟩ : ∃ CS, CS = (ss.drop 0).map encStr := ⟨_, rfl⟩
    have hCl : CS.length = 0 - 0 := by rw [hCS, List.length_map, List.length_drop, ← HN.out]
    have hsrc : ∀ j v, CS[j]? = some v → w1.cell? ((⟨g1, 0, none⟩ : Addr).add j) = some v := fun j v hj => by rw [hCS] at hj; exact src_form hgb1 ht HN.out hj
    have hone : ∀ v ∈ CS, v.oneCell' = true := fun v hv => by rw [hCS] at hv; obtain ⟨y, _, rfl⟩ := List.mem_map.1 hv; rfl
    have HCS := Lib.hid hCS
    have hgl : w1.heap[g1]? = some (.cells cur1.toList.toArray 9 (0, 0)) := by simpa using hgb1
    have HGL := Lib.hid hgl
    have HSRC := Lib.hid hsrc
    have HONE := Lib.hid hone
    have HCL := Lib.hid hCl
    have hfit : 1 + CS.length ≤ cur1.toList.length := by rw [hCl, Array.length_toList]; omega
    have HFIT := Lib.hid hfit
    clear hown1 hg1 hnil1 hnn hgb1 ht hbel1 hCS hgl hsrc hone hCl hfit hcell1
    rw [hv1]
    go_wp2
    have hd2' : ¬ cap1 = 0 := by omega
    have HSRC' : Hid (∀ j v, CS[j]? = some v → w1.drew.cell? ((⟨g1, 0, none⟩ : Addr).add j) = some v) := HSRC
    have HB1' : Hid (Below base w w1.drew) := HB1.drew
    have HC0 : Hid (CS.length = 0) := by rw [HCL.out]; unfold Hid; omega
    by_cases hcc : cap1 = 1
    · subst hcc
      go_region_law (refine step_copy_splice rfl (.tmp 39) (.tmp 42) 22 22 rfl 9 Yba.underlying22 Yba.size9 (some ⟨g1, 0, none⟩) (some ⟨g1, 0, none⟩) 0 0 1 1 (by simp [Act.eval, Act.put]) (by simp [Act.eval, Act.put]) g1 (1) cur1.toList 9 HGL.out CS (HC0.out.trans rfl) (fun h => absurd h (by rw [HC0.out]; exact Nat.lt_irrefl 0)) HFIT.out HONE.out base w HB1'.out hbase1 ?_; intro w4 hg4 hb4)
      have hsz4 : 0 < (splice cur1.toList (1) CS).toArray.size := by
        rw [List.size_toArray, length_splice _ _ _ HFIT.out, Array.length_toList]; omega
      obtain ⟨u, hu4⟩ := cell_form hg4.out hsz4
      have hf4 : w4.frozen? ⟨g1, 0, none⟩ = false := frozen_row hg4.out
      have HHB := Lib.hid hb4
      clear hsz4
      go_wp2
      go_ret
      have hI := HI.out
      exact ⟨_, rfl, row_end hbase1 HCS.out hg4.out HFIT.out HN.out HK.out HT.out hc1 hm1 hz hI, HHB.out.setCell hbase1 _⟩
    · go_region_law (refine step_copy_splice rfl (.tmp 39) (.tmp 42) 22 22 rfl 9 Yba.underlying22 Yba.size9 (some ⟨g1, 1, none⟩) (some ⟨g1, 0, none⟩) 0 (cap1 - (1)) 1 cap1 (by simp [Act.eval, Act.put]) (by simp [Act.eval, Act.put]) g1 (1) cur1.toList 9 HGL.out CS (HC0.out.trans rfl) (fun h => absurd h (by rw [HC0.out]; exact Nat.lt_irrefl 0)) HFIT.out HONE.out base w HB1'.out hbase1 ?_; intro w4 hg4 hb4)
      have hsz4 : 0 < (splice cur1.toList (1) CS).toArray.size := by
        rw [List.size_toArray, length_splice _ _ _ HFIT.out, Array.length_toList]; omega
      obtain ⟨u, hu4⟩ := cell_form hg4.out hsz4
      have hf4 : w4.frozen? ⟨g1, 0, none⟩ = false := frozen_row hg4.out
      have HHB := Lib.hid hb4
      clear hsz4
      go_wp2
      go_ret
      have hI := HI.out
      exact ⟨_, rfl, row_end hbase1 HCS.out hg4.out HFIT.out HN.out HK.out HT.out hc1 hm1 hz hI, HHB.out.setCell hbase1 _⟩

/-- The helper that keeps a row of strings sorted and free of doubles. -/
theorem insert_any (base : Nat) (v : Value) (ss : List Str) (xb : ByteArray) (w : World) (hB : base ≤ w.heap.size) (hown : w.ownsRow base 9 1 v ss.length (ss.map encStr)) (hlen : ss.length ≤ 2000) :
    Calls Yba.prog 6 #[v, .string xb] w fun e w' => ∃ v', e = .returned v' ∧ w'.ownsRow base 9 1 v' (ins xb.data.toList ss).length ((ins xb.data.toList ss).map encStr) ∧ Below base w w' := by
  by_cases hn : v = .slice none 0 0
  · rcases hown.2 with ⟨_, h0⟩ | ⟨g, cap, cur, hv, _⟩
    · have : ss = [] := List.eq_nil_of_length_eq_zero h0
      subst this; subst hn
      exact insert_nil base xb w hB
    · rw [hv] at hn; simp at hn
  · obtain ⟨g, cap, cur, hv, hb, hg, h1, h2, h3, h4⟩ := own_form hown hn
    rw [hv]
    exact insert_some base g cap cur ss xb w hb hg h1 h2 h3 h4 hB hlen
end Go.Proofs.Ybulkbklk
