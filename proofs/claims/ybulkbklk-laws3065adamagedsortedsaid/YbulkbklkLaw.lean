/- The walk of LawS3065ADamagedSorted. -/
import Derived.Test.YbulkbklkState
import Derived.BigQuiet
namespace Go.Proofs.Ybulkbklk
open Go.RowKit Go.Maps Go.Sort

theorem own_cell {w : World} {base m : Nat} {v : Value} {ss : List Str} (h : w.ownsRow base 9 1 v m (ss.map encStr)) (k : Nat) (hm : m = ss.length) (hk : k < ss.length) : ∃ g cap, v = .slice (some ⟨g, 0, none⟩) m cap ∧ w.cell? ⟨g, k, none⟩ = some (encStr ss[k]) := by
  have hn : v ≠ .slice none 0 0 := by
    rintro rfl
    rcases h.2 with ⟨_, h0⟩ | ⟨g, cap, cur, hv, _⟩
    · omega
    · simp at hv
  obtain ⟨g, cap, cur, hv, _, hg, h1, _, h3, h4⟩ := own_form h hn
  exact ⟨g, cap, hv, row_cell hg h4 k (by omega) hk⟩
theorem own_len {w : World} {base m : Nat} {v : Value} {xs : List Value} (h : w.ownsRow base 9 1 v m xs) : ∃ a cap, v = .slice a m cap := by
  rcases h.2 with ⟨h1, h0⟩ | ⟨g, cap, cur, hv, _⟩
  · exact ⟨none, 0, by rw [h1, h0]⟩
  · exact ⟨_, _, hv⟩

theorem zero4 (w : World) : (zeroValue 4).run Yba.prog w = .ok (.bool false) w := Yba.zeroValue4 w
theorem run_eql_slice_nil' (w : World) : (binOp .eql 22 (.slice none 0 0) (.slice none 0 0)).run Yba.prog w = .ok (.bool true) w := by
  simpa using Lib.run_eql_slice_nil w 22 9 none 0 0 0 0 Yba.underlying22

set_option maxRecDepth 100000 in
set_option maxHeartbeats 8000000 in
theorem law_walk (a0 a1 a2 : Option Addr) (c0 l1 c1 c2 : Nat) (ds fs : List ByteArray) (B : Nat → Bool) (w : World) (hl0 : ds.length ≤ 1024) (hl2 : fs.length ≤ 1024) (hd : CameS w a0 ds) (hf : CameS w a2 fs) (hb : ∀ i, i < l1 → ∃ x, a1 = some x ∧ w.cell? (x.add i) = some (.bool (B i)))
    (hsd : ∀ s ∈ ds, s.size ≤ maxLen) (hsf : ∀ s ∈ fs, s.size ≤ maxLen) :
    Calls Yba.prog 3 #[.slice a0 ds.length c0, .slice a1 l1 c1, .slice a2 fs.length c2] w fun e w' => e = .returned (.bool true) ∧ Below w.heap.size w w' := by
  obtain ⟨l0, hl0e⟩ : ∃ l0, l0 = ds.length := ⟨_, rfl⟩
  obtain ⟨l2, hl2e⟩ : ∃ l2, l2 = fs.length := ⟨_, rfl⟩
  have HD := Lib.hid hd
  have HF := Lib.hid hf
  have HBL := Lib.hid hb
  have HSD := Lib.hid hsd
  have HSF := Lib.hid hsf
  have HL0 := Lib.hid hl0e
  have HL2 := Lib.hid hl2e
  rw [← hl0e] at hl0 ⊢
  rw [← hl2e] at hl2 ⊢
  clear hd hf hb hsd hsf hl0e hl2e
  have g1 : ¬ (1024 : Int) < (l0 : Int) := by omega
  have g2 : ¬ (1024 : Int) < (l2 : Int) := by omega
  go_enter Yba.func3, Yba.ntmps3
  go_wp2_with (go_at_call 4; refine (new_any _ _).mono ?_; rintro e w' ⟨rfl, hw'⟩; have HH : Hid (Held w 0 0 [] [] w') := (hw'.symm ▸ Held.start w _); clear hw')
  go_loopw [33] (fun i wr => ∃ k : Nat, k ≤ l0 ∧ i = .int .i64 k ∧ Hid (Held w k 0 ((sl ds).take k) [] wr)) (fun i _ => l0 - (intOf i).toNat)
  case atStart => exact ⟨0, Nat.zero_le _, rfl, HH⟩
  case round =>
    obtain ⟨k, hk, rfl, H1⟩ := hrel
    clear HH
    by_cases hlt : k < l0
    · have hkd : k < ds.length := by rw [← HL0.out]; exact hlt
      obtain ⟨x, hx, hc⟩ := HD.out.at H1.out.bel hkd
      obtain ⟨s, hs⟩ : ∃ s, s = ds[k] := ⟨_, rfl⟩
      rw [← hs] at hc
      have HKY : Hid (keyOf Yba.prog 9 (.string s) = some (.string s.data.toList)) := WideMaps.keyOf_string_mk Yba.underlying9 (HSD.out s (hs ▸ List.getElem_mem _))
      have HST : Hid ((sl ds).take (k + 1) = (sl ds).take k ++ [s.data.toList]) := hs ▸ sl_take ds hkd
      have hq : (k : Int) < (l0 : Int) := by omega
      have hc8 := H1.out.c8
      subst hx
      clear hs
      by_cases hfl : k < l1
      · have hq1 : (k : Int) < (l1 : Int) := by omega
        obtain ⟨y, hy, hcy⟩ := HBL.out k hfl
        subst hy
        have hcy' : wr.cell? (y.add k) = some (.bool (B k)) := (H1.out.bel.cell (p := y.add k) (World.block_lt_of_cell? _ _ hcy)).trans hcy
        clear HD HF HBL HSD HSF HL0 HL2 hcy
        go_wp2_with (at_mapUpdate; refine wpList_mapUpdate_own _ rfl _ _ _ 39 rfl 9 4 law9 Yba.underlying39 anyE _ _ _ rfl H1.out.dam (by unfold maxLen; omega) _ _ _ rfl rfl HKY.out .nil [] rfl ?_; intro w5 hown5 hg5; have H5 : Hid (Held w (k + 1) 0 ((sl ds).take (k + 1)) [] w5) := (by rw [HST.out]; exact H1.out.putD hown5 hg5); clear hown5 hg5)
        go_roundw
        case rel => exact ⟨k + 1, by omega, by go_num, H5⟩
        case measure => simp [intOf]; omega
      · have hq1 : ¬ (k : Int) < (l1 : Int) := by omega
        clear HD HF HBL HSD HSF HL0 HL2
        go_wp2_with (at_mapUpdate; refine wpList_mapUpdate_own _ rfl _ _ _ 39 rfl 9 4 law9 Yba.underlying39 anyE _ _ _ rfl H1.out.dam (by unfold maxLen; omega) _ _ _ rfl rfl HKY.out .nil [] rfl ?_; intro w5 hown5 hg5; have H5 : Hid (Held w (k + 1) 0 ((sl ds).take (k + 1)) [] w5) := (by rw [HST.out]; exact H1.out.putD hown5 hg5); clear hown5 hg5)
        go_roundw
        case rel => exact ⟨k + 1, by omega, by go_num, H5⟩
        case measure => simp [intOf]; omega
    · rename World => w3
      have hq : ¬ (k : Int) < (l0 : Int) := by omega
      have hkl : k = l0 := by omega
      have H2 : Hid (Held w l0 0 (sl ds) [] w3) := by
        have h := H1.out
        rw [hkl] at h
        have e : (sl ds).take l0 = sl ds := List.take_of_length_le (by rw [HL0.out]; simp [sl])
        rw [e] at h
        exact h
      clear H1 hkl
      go_wp2
      go_loopw [55] (fun i wr => ∃ k : Nat, k ≤ l2 ∧ i = .int .i64 k ∧ Hid (Held w l0 k (sl ds) ((sl fs).take k) wr)) (fun i _ => l2 - (intOf i).toNat)
      case atStart => exact ⟨0, Nat.zero_le _, rfl, H2⟩
      case round =>
        obtain ⟨j, hj, rfl, H3⟩ := hrel
        clear H2
        by_cases hltj : j < l2
        · have hkd : j < fs.length := by rw [← HL2.out]; exact hltj
          obtain ⟨x, hx, hc⟩ := HF.out.at H3.out.bel hkd
          obtain ⟨s, hs⟩ : ∃ s, s = fs[j] := ⟨_, rfl⟩
          rw [← hs] at hc
          have HKY : Hid (keyOf Yba.prog 9 (.string s) = some (.string s.data.toList)) := WideMaps.keyOf_string_mk Yba.underlying9 (HSF.out s (hs ▸ List.getElem_mem _))
          have HST : Hid ((sl fs).take (j + 1) = (sl fs).take j ++ [s.data.toList]) := hs ▸ sl_take fs hkd
          have hqj : (j : Int) < (l2 : Int) := by omega
          have hc7 := H3.out.c7
          subst hx
          clear hs HD HF HBL HSD HSF HL0 HL2
          go_wp2_with (at_mapUpdate; refine wpList_mapUpdate_own _ rfl _ _ _ 38 rfl 9 43 law9 Yba.underlying38 anyE _ _ _ rfl (H3.out.alloc _).files (by unfold maxLen; omega) _ _ _ rfl rfl HKY.out .nil [] rfl ?_; intro w5 hown5 hg5; have H5 : Hid (Held w l0 (j + 1) (sl ds) ((sl fs).take (j + 1)) w5) := (by rw [HST.out]; exact (H3.out.alloc _).putF hown5 hg5); clear hown5 hg5)
          go_roundw
          case rel => exact ⟨j + 1, by omega, by go_num, H5⟩
          case measure => simp [intOf]; omega
        · rename World => w4
          have hqj : ¬ (j : Int) < (l2 : Int) := by omega
          have HLL : Hid ((sl ds).length ≤ 1024) := by rw [sl, List.length_map, ← HL0.out]; exact hl0
          go_wp2_with (go_at_call 5; refine (H3.out.call HLL.out).mono ?_; rintro e w5 ⟨vg, rfl, hog, hng, hh5, hsz5⟩; have HOG := Lib.hid hog; have HNG := Lib.hid hng; have H5 := Lib.hid hh5; have HSZ := Lib.hid hsz5; clear hog hng hh5 hsz5)
          go_loopw [14, 72] (fun v i wr => ∃ k : Nat, k ≤ l0 ∧ i = .int .i64 k ∧ Hid (wr.ownsRow w5.heap.size 9 1 v (insAll ((sl ds).take k)).length ((insAll ((sl ds).take k)).map encStr)) ∧ Hid (Held w l0 j (sl ds) ((sl fs).take j) wr) ∧ Hid (Below w5.heap.size w5 wr)) (fun _ i _ => l0 - (intOf i).toNat)
          case atStart => exact ⟨0, Nat.zero_le _, rfl, World.ownsRow_nil _ _ _ _, H5, Below.refl _ _⟩
          case round =>
            obtain ⟨p, hp, rfl, HO, H6, HB6⟩ := hrel
            clear H3
            by_cases hltp : p < l0
            · have hkd : p < ds.length := by rw [← HL0.out]; exact hltp
              obtain ⟨x, hx, hc⟩ := HD.out.at H6.out.bel hkd
              obtain ⟨s, hs⟩ : ∃ s, s = ds[p] := ⟨_, rfl⟩
              rw [← hs] at hc
              have HST : Hid (insAll ((sl ds).take (p + 1)) = ins s.data.toList (insAll ((sl ds).take p))) := by
                show _ = _
                rw [hs, sl_take ds hkd, insAll_snoc]
              have hqp : (p : Int) < (l0 : Int) := by omega
              have HLE : Hid ((insAll ((sl ds).take p)).length ≤ 2000) := Nat.le_trans (length_insAll _) (by rw [List.length_take]; omega)
              have HCL : Hid (Calls Yba.prog 6 #[u14, .string s] wr fun e w' => ∃ v', e = .returned v' ∧ w'.ownsRow w5.heap.size 9 1 v' (insAll ((sl ds).take (p + 1))).length ((insAll ((sl ds).take (p + 1))).map encStr) ∧ Below w5.heap.size wr w') := by
                rw [HST.out]
                exact insert_any w5.heap.size u14 _ s wr HB6.out.size HO.out HLE.out
              have HBG : Hid (w.heap.size + 1 + 1 + 1 < w5.heap.size) := H5.out.size
              subst hx
              clear hs HD HF HBL HSD HSF HL0 HL2 HO
              go_wp2_with (go_at_call 6; refine HCL.out.mono ?_; rintro e w7 ⟨v7, rfl, ho7, hb7⟩; have HO7 := Lib.hid ho7; have HB7 := Lib.hid hb7; clear ho7 hb7)
              go_roundw
              case rel => exact ⟨p + 1, by omega, by go_num, HO7, H6.out.below HBG.out HB7.out, HB6.out.trans HB7.out⟩
              case measure => simp [intOf]; omega
            · rename World => w6
              have hqp : ¬ (p : Int) < (l0 : Int) := by omega
              obtain ⟨L, hL⟩ : ∃ L, L = insAll (sl ds) := ⟨_, rfl⟩
              obtain ⟨m, hm⟩ : ∃ m, m = L.length := ⟨_, rfl⟩
              have hpl : p = l0 := by omega
              have eT : (sl ds).take p = sl ds := List.take_of_length_le (by rw [hpl, HL0.out]; simp [sl])
              have HOW : Hid (w6.ownsRow w5.heap.size 9 1 u14 m (L.map encStr)) := by
                have h := HO.out
                rw [eT, ← hL, ← hm] at h
                exact h
              have HOG' : Hid (w5.ownsRow w4.heap.size 9 1 vg m (L.map encStr)) := by
                have h := HOG.out
                rw [← hL, ← hm] at h
                exact h
              have HNG' : Hid (L = [] → vg = .slice none 0 0) := by rw [hL]; exact HNG.out
              have HMS : Hid (Maps.size (keysD (sl ds)) = m) := by rw [hm, hL]; exact size_keysD _ H6.out.dam
              have HMEM : Hid (∀ x ∈ L, x ∈ sl ds) := fun x hx => (mem_insAll (sl ds) x).1 (hL ▸ hx)
              have hm1 : m ≤ 1024 := by
                have h1 := length_insAll (sl ds)
                rw [hm, hL]; have h2 : (sl ds).length = l0 := by rw [HL0.out]; simp [sl]
                omega
              have HML := Lib.hid hm
              obtain ⟨aw, cw, hvw⟩ := own_len HOW.out
              obtain ⟨ag, cg, hvg⟩ := own_len HOG'.out
              have hc8 := H6.out.c8
              clear HO HOG HNG hL hm eT hpl HF HBL HSF HL2 HLL HSZ
              subst hvw
              subst hvg
              have hlen : ∀ ty, (Builtin.len_ #[39] ty #[.map (some (w.heap.size + 1))]).run Yba.prog w6 = .ok (.int .i64 m) w6 := fun ty => by
                rw [← HMS.out]; exact H6.out.dam.len Yba.underlying39 ty
              go_wp2
              clear hlen
              go_loop [90] (fun i => ∃ q : Nat, q ≤ m ∧ i = .int .i64 q) (fun i => m - (intOf i).toNat)
              case atStart => exact ⟨0, Nat.zero_le _, rfl⟩
              case round =>
                obtain ⟨q, hq4, rfl⟩ := hrel
                by_cases hltq : q < m
                · have hqL : q < L.length := by rw [← HML.out]; exact hltq
                  obtain ⟨gw, cw', hvw, hcw⟩ := own_cell HOW.out q HML.out hqL
                  obtain ⟨rfl, rfl⟩ : aw = some ⟨gw, 0, none⟩ ∧ cw = cw' := by simpa using hvw
                  obtain ⟨s, hs⟩ : ∃ s : ByteArray, s = ⟨L[q].toArray⟩ := ⟨_, rfl⟩
                  have hsl : s.data.toList = L[q] := by rw [hs]
                  have hmem : s.data.toList ∈ sl ds := by rw [hsl]; exact HMEM.out _ (List.getElem_mem _)
                  have hcw' : w6.cell? ⟨gw, q, none⟩ = some (.string s) := by rw [hs]; exact hcw
                  have hsz : s.size ≤ maxLen := by
                    obtain ⟨d, hd, he⟩ := List.mem_map.1 hmem
                    have h1 := HSD.out d hd
                    have e1 : s.size = s.data.toList.length := by rw [Array.length_toList]; rfl
                    have e2 : d.size = d.data.toList.length := by rw [Array.length_toList]; rfl
                    rw [e1, ← he, ← e2]; exact h1
                  obtain ⟨vv, ps, hrun, _⟩ := H6.out.dam.look_ok law9 Yba.underlying39 (zero4 w6) (zd := .nil) (zp := []) rfl (WideMaps.keyOf_string_mk Yba.underlying9 hsz)
                  rw [(has_keysD _ _).2 hmem] at hrun
                  have hqq : (q : Int) < (m : Int) := by omega
                  clear hvw hcw hs hsl hmem hsz HD HL0 HSD HOW HOG' HNG' HMS HMEM HML HB6
                  go_wp2
                  go_round
                  case rel => exact ⟨q + 1, by omega, by go_num⟩
                  case measure => simp [intOf]; omega
                · have hqq : ¬ (q : Int) < (m : Int) := by omega
                  by_cases hm0 : m = 0
                  · have hL0 : L = [] := List.eq_nil_of_length_eq_zero (by rw [← HML.out]; exact hm0)
                    obtain ⟨rfl, -, rfl⟩ : ag = none ∧ m = 0 ∧ cg = 0 := by simpa using HNG'.out hL0
                    have heq := fun w : World => run_eql_slice_nil' w
                    clear HD HL0 HSD HOW HOG' HNG' HMS HMEM HML HB6
                    subst hm0
                    go_wp2
                    go_ret
                    exact ⟨rfl, H6.out.bel⟩
                  · have hm0' : ¬ (m : Int) = 0 := by omega
                    clear HD HL0 HSD HMS HMEM
                    go_wp2
                    go_loopw [118] (fun i wr => ∃ q : Nat, q ≤ m ∧ i = .int .i64 q ∧ Hid (Below w6.heap.size w6 wr)) (fun i _ => m - (intOf i).toNat)
                    case atStart => exact ⟨0, Nat.zero_le _, rfl, Below.refl _ _⟩
                    case round =>
                      obtain ⟨r, hr5, rfl, HB8⟩ := hrel
                      by_cases hltr : r < m
                      · have hqL : r < L.length := by rw [← HML.out]; exact hltr
                        obtain ⟨gw, cw', hvw, hcw⟩ := own_cell HOW.out r HML.out hqL
                        obtain ⟨rfl, rfl⟩ : aw = some ⟨gw, 0, none⟩ ∧ cw = cw' := by simpa using hvw
                        obtain ⟨gg, cg', hvg, hcg⟩ := own_cell HOG'.out r HML.out hqL
                        obtain ⟨rfl, rfl⟩ : ag = some ⟨gg, 0, none⟩ ∧ cg = cg' := by simpa using hvg
                        obtain ⟨s, hs⟩ : ∃ s : ByteArray, s = ⟨L[r].toArray⟩ := ⟨_, rfl⟩
                        have hg6 : w6.cell? ⟨gg, r, none⟩ = some (.string s) := by
                          rw [HB6.out.cell (p := ⟨gg, r, none⟩) (World.block_lt_of_cell? w5 ⟨gg, r, none⟩ hcg), hs]; exact hcg
                        have hw6 : w6.cell? ⟨gw, r, none⟩ = some (.string s) := by rw [hs]; exact hcw
                        have hcg8 : wr.cell? ⟨gg, r, none⟩ = some (.string s) := (HB8.out.cell (p := ⟨gg, r, none⟩) (World.block_lt_of_cell? w6 ⟨gg, r, none⟩ hg6)).trans hg6
                        have hcw8 : wr.cell? ⟨gw, r, none⟩ = some (.string s) := (HB8.out.cell (p := ⟨gw, r, none⟩) (World.block_lt_of_cell? w6 ⟨gw, r, none⟩ hw6)).trans hw6
                        have hrr : (r : Int) < (m : Int) := by omega
                        clear hvw hcw hvg hcg hs hg6 hw6 HOW HOG' HNG' HML HB6
                        go_wp2
                        go_region
                        go_wp2
                        go_roundw
                        case rel => exact ⟨r + 1, by omega, by go_num, HB8.out.drew⟩
                        case measure => simp [intOf]; omega
                      · have hrr : ¬ (r : Int) < (m : Int) := by omega
                        clear HOW HOG' HNG' HML HB6
                        go_wp2
                        go_ret
                        exact ⟨rfl, H6.out.bel.trans (HB8.out.mono H6.out.bel.size)⟩
end Go.Proofs.Ybulkbklk
