/- parseCount and the model at a sign and digits. -/
import Derived.Test.YbulkbkcuDoorParse
import Derived.Test.YbulkbkcuDoorModel
import Derived.Lib.Slices
import Derived.Laws.IdiomStrings
import Derived.OwnWalk
namespace Go.Proofs.YbulkbkcuDoor
open Go.RowKit Go.Shelf

/-! ### The two callees at a sign and digits -/
theorem byte_at (s : ByteArray) (m : Nat) (h : m < s.size) (T : List UInt8) (hT : s.data.toList = T) (h' : m < T.length) : s[m] = T[m] := by
  subst hT; rfl
theorem size_of {s : ByteArray} {T : List UInt8} (hT : s.data.toList = T) : s.size = T.length := by
  subst hT; exact Array.length_toList.symm
theorem spells (s : ByteArray) (pre l : List UInt8) (hT : s.data.toList = pre ++ l) (hd : ∀ c ∈ l, Plain.Dig c) : Spells s pre.length (fun m => Plain.val 0 (l.take (m - pre.length))) := by
  have hz : s.size = pre.length + l.length := by rw [size_of hT, List.length_append]
  have hat : ∀ m (h : m < s.size) (_ : pre.length ≤ m), ∃ h2 : m - pre.length < l.length, s[m] = l[m - pre.length] := by
    intro m h hm
    refine ⟨by omega, ?_⟩
    rw [byte_at s m h _ hT (by rw [List.length_append]; omega), List.getElem_append_right hm]
  refine ⟨?_, ?_, ?_⟩
  · simp [Plain.val_nil]
  · intro m h hm
    obtain ⟨h2, e⟩ := hat m h hm
    rw [e]; exact hd _ (List.getElem_mem _)
  · intro m h hm
    obtain ⟨h2, e⟩ := hat m h hm
    show Plain.val 0 (l.take (m + 1 - pre.length)) = _
    rw [show m + 1 - pre.length = (m - pre.length) + 1 by omega, List.take_succ_eq_append_getElem h2, Plain.val_snoc, e]

theorem model_dig (s : ByteArray) (k : Nat) (l : List UInt8) (hT : s.data.toList = Plain.signed k l) (hl : l ≠ []) (hd : ∀ c ∈ l, Plain.Dig c) (hsz : s.size ≤ 2000) (w : World) :
    Calls Ybad.prog 7 #[.string s] w fun e w' => e = .returned (.tuple #[.int .i64 (Plain.want (k == 1) (Plain.val 0 l)), .bool true]) ∧ w' = w := by
  have hpos : 0 < l.length := by
    cases l with
    | nil => exact absurd rfl hl
    | cons _ _ => simp
  by_cases h1 : k = 1
  · subst h1
    have hT' : s.data.toList = [45] ++ l := hT
    have hz := size_of hT'
    have hS := spells s [45] l hT' hd
    have h0 : s[0]'(by rw [hz]; simp) = 45 := by rw [byte_at s 0 _ _ hT' (by simp)]; rfl
    have := model_neg s _ hS hsz (by rw [hz]; simp; omega) h0 w
    have e : l.take (s.size - [(45 : UInt8)].length) = l := List.take_of_length_le (by rw [hz]; simp)
    rw [e] at this
    exact this
  · by_cases h2 : k = 2
    · subst h2
      have hT' : s.data.toList = [43] ++ l := hT
      have hz := size_of hT'
      have hS := spells s [43] l hT' hd
      have h0 : s[0]'(by rw [hz]; simp) = 43 := by rw [byte_at s 0 _ _ hT' (by simp)]; rfl
      have := model_plus s _ hS hsz (by rw [hz]; simp; omega) h0 w
      have e : l.take (s.size - [(43 : UInt8)].length) = l := List.take_of_length_le (by rw [hz]; simp)
      rw [e] at this
      exact this
    · have es : Plain.signed k l = [] ++ l := by
        match k, h1, h2 with
        | 0, _, _ => rfl
        | n + 3, _, _ => rfl
      have hT' : s.data.toList = [] ++ l := hT.trans es
      have hz := size_of hT'
      have hS := spells s [] l hT' hd
      have := model_bare s _ hS hsz (by rw [hz]; simpa using hpos) w
      have e : l.take (s.size - ([] : List UInt8).length) = l := List.take_of_length_le (by rw [hz]; simp)
      rw [e] at this
      rw [show (k == 1) = false by simpa using h1]
      exact this
theorem model_no (s : ByteArray) (k : Nat) (hT : s.data.toList = Plain.signed k []) (w : World) :
    Calls Ybad.prog 7 #[.string s] w fun e w' => e = .returned (.tuple #[.int .i64 0, .bool false]) ∧ w' = w := by
  have hz := size_of hT
  match k, hT, hz with
  | 0, hT, hz => exact model_empty s hz w
  | 1, hT, hz => exact model_sign s hz (.inl (byte_at s 0 _ _ hT (by simp [Plain.signed]))) w
  | 2, hT, hz => exact model_sign s hz (.inr (byte_at s 0 _ _ hT (by simp [Plain.signed]))) w
  | n + 3, hT, hz => exact model_empty s hz w

/-- What the listed variables give, in whatever world. -/
structure Errs (w : World) (b a : Addr) (cb ca : Array Value) (tb ta : TypeId) : Prop where
  rng : w.cell? ⟨0, 0, none⟩ = some (.iface 83 (.pointer (some b)))
  syn : w.cell? ⟨2, 0, none⟩ = some (.iface 83 (.pointer (some a)))
  ne : b ≠ a
  hb : w.heap[b.block]? = some (.cells cb tb (0, 0))
  ha : w.heap[a.block]? = some (.cells ca ta (0, 0))
theorem Errs.keep {w w' : World} {b a : Addr} {cb ca : Array Value} {tb ta : TypeId} (h : Errs w b a cb ca tb ta) (hw : Below w.heap.size w w') : Errs w' b a cb ca tb ta :=
  ⟨(hw.cell (World.block_lt_of_cell? _ _ h.rng)).trans h.rng, (hw.cell (World.block_lt_of_cell? _ _ h.syn)).trans h.syn, h.ne,
    (hw.block _ (Array.getElem?_eq_some_iff.1 h.hb).1).trans h.hb, (hw.block _ (Array.getElem?_eq_some_iff.1 h.ha).1).trans h.ha⟩

theorem count_dig (s : ByteArray) (k : Nat) (l : List UInt8) (hT : s.data.toList = Plain.signed k l) (hl : l ≠ []) (hd : ∀ c ∈ l, Plain.Dig c) (hsz : s.size ≤ 2000) (b a : Addr) (cb ca : Array Value) (tb ta : TypeId) (w : World) (hE : Errs w b a cb ca tb ta) :
    Calls Ybad.prog 6 #[.string s] w fun e w' => e = .returned (.tuple #[.int .i64 (Plain.want (k == 1) (Plain.val 0 l)), .nilIface]) ∧ Below w.heap.size w w' := by
  rcases Plain.int_end k l hl hd with h | ⟨⟨h, h2⟩, _⟩
  · exact count_ok s (by omega) _ (by rw [hT]; exact h) b w hE.rng
  · rw [← h2, ← hT]
    exact count_range s (by omega) (by rw [hT]; exact h) b w hE.rng
theorem count_no (s : ByteArray) (k : Nat) (hT : s.data.toList = Plain.signed k []) (hsz : s.size ≤ 2000) (b a : Addr) (cb ca : Array Value) (tb ta : TypeId) (w : World) (hE : Errs w b a cb ca tb ta) :
    Calls Ybad.prog 6 #[.string s] w fun e w' => (∃ N, e = .returned (.tuple #[.int .i64 0, .iface 55 (.pointer (some ⟨N, 0, none⟩))])) ∧ Below w.heap.size w w' := by
  have hn := Plain.int_none k
  rw [← hT] at hn
  refine count_fault s a b ca cb ta tb w hE.rng (fun h => hE.ne h.symm) hE.ha hE.hb ?_
  cases h : Lib.parseIntB 64 s.data.toList
  · exact absurd h (hn.1 _)
  · exact Any.strconv_ParseInt_10_at64_syntax Ybad.laysC174 s (by omega) h _ w hE.syn (.inr ⟨_, _, rfl⟩)
  · exact absurd h hn.2
end Go.Proofs.YbulkbkcuDoor
