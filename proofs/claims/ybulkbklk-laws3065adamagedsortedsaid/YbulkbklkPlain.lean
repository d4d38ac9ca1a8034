/- Plain facts on sorted lists of strings (as lists of bytes). No Go in sight. -/
import Derived.Sort.KeysCollected
namespace Go.Proofs.Ybulkbklk
open Go

abbrev Str := List UInt8

/-- The law's own insertion: into a sorted list without doubles. -/
def ins (x : Str) : List Str → List Str
  | [] => [x]
  | y :: r => if y < x then y :: ins x r else if y = x then y :: r else x :: y :: r

theorem ins_at (x : Str) (ss : List Str) : ∀ k, k ≤ ss.length → (∀ j (h : j < ss.length), j < k → ss[j] < x) → (∀ h : k < ss.length, ¬ ss[k] < x) →
    ((∃ h : k < ss.length, ss[k] = x) → ins x ss = ss) ∧ (¬ (∃ h : k < ss.length, ss[k] = x) → ins x ss = ss.take k ++ x :: ss.drop k) := by
  induction ss with
  | nil =>
    intro k hk _ _
    have : k = 0 := by simpa using hk
    subst this
    refine ⟨fun h => ?_, fun _ => rfl⟩
    obtain ⟨h, _⟩ := h
    simp at h
  | cons y r ih =>
    intro k hk hlow htop
    match k with
    | 0 =>
      have hy : ¬ y < x := htop (by simp)
      refine ⟨fun h => ?_, fun h => ?_⟩
      · obtain ⟨_, h⟩ := h
        have h' : y = x := h
        show (if y < x then y :: ins x r else if y = x then y :: r else x :: y :: r) = y :: r
        rw [if_neg hy, if_pos h']
      · have h' : ¬ y = x := fun e => h ⟨by simp, e⟩
        show (if y < x then y :: ins x r else if y = x then y :: r else x :: y :: r) = _
        rw [if_neg hy, if_neg h']
        rfl
    | k + 1 =>
      have hy : y < x := hlow 0 (by simp) (by omega)
      have := ih k (by simpa using hk) (fun j h hj => hlow (j + 1) (by simpa using h) (by omega)) (fun h => htop (by simpa using h))
      have e : ins x (y :: r) = y :: ins x r := by
        show (if y < x then y :: ins x r else if y = x then y :: r else x :: y :: r) = _
        rw [if_pos hy]
      rw [e]
      refine ⟨fun h => ?_, fun h => ?_⟩
      · rw [this.1 (by obtain ⟨h1, h2⟩ := h; exact ⟨by simpa using h1, h2⟩)]
      · rw [this.2 (fun ⟨h1, h2⟩ => h ⟨by simpa using h1, h2⟩)]
        rfl
theorem mem_ins (x y : Str) (ss : List Str) : y ∈ ins x ss ↔ y = x ∨ y ∈ ss := by
  induction ss with
  | nil => simp [ins]
  | cons z r ih =>
    unfold ins
    split
    · simp only [List.mem_cons, ih]
      constructor
      · rintro (h | h | h)
        · exact .inr (.inl h)
        · exact .inl h
        · exact .inr (.inr h)
      · rintro (h | h | h)
        · exact .inr (.inl h)
        · exact .inl h
        · exact .inr (.inr h)
    · split
      · rename_i h
        subst h
        simp only [List.mem_cons]
        constructor
        · rintro (h | h)
          · exact .inl h
          · exact .inr (.inr h)
        · rintro (h | h | h)
          · exact .inl h
          · exact .inl h
          · exact .inr h
      · simp only [List.mem_cons]
theorem sorted_ins (x : Str) (ss : List Str) (h : ss.Pairwise (· < ·)) : (ins x ss).Pairwise (· < ·) := by
  induction ss with
  | nil => simp [ins]
  | cons z r ih =>
    rw [List.pairwise_cons] at h
    unfold ins
    split
    · rename_i hz
      rw [List.pairwise_cons]
      refine ⟨fun y hy => ?_, ih h.2⟩
      rcases (mem_ins x y r).1 hy with rfl | hy
      · exact hz
      · exact h.1 y hy
    · rename_i hz
      split
      · rw [List.pairwise_cons]; exact h
      · rename_i hne
        have hxz : x < z := Decidable.byContradiction fun hn => hne (List.le_antisymm (List.not_lt.1 hn) (List.not_lt.1 hz))
        rw [List.pairwise_cons, List.pairwise_cons]
        refine ⟨fun y hy => ?_, h⟩
        rcases List.mem_cons.1 hy with rfl | hy
        · exact hxz
        · exact List.lt_trans hxz (h.1 y hy)
/-- All of them, one after the other. -/
def insAll (l : List Str) : List Str := l.foldl (fun acc x => ins x acc) []
theorem insAll_snoc (l : List Str) (x : Str) : insAll (l ++ [x]) = ins x (insAll l) := by
  unfold insAll
  rw [List.foldl_append]
  rfl
theorem mem_fold (l : List Str) (y : Str) : ∀ acc, y ∈ l.foldl (fun acc x => ins x acc) acc ↔ y ∈ l ∨ y ∈ acc := by
  induction l with
  | nil => intro acc; simp
  | cons x r ih =>
    intro acc
    rw [List.foldl_cons, ih, mem_ins]
    simp only [List.mem_cons]
    constructor
    · rintro (h | h | h)
      · exact .inl (.inr h)
      · exact .inl (.inl h)
      · exact .inr h
    · rintro ((h | h) | h)
      · exact .inr (.inl h)
      · exact .inl h
      · exact .inr (.inr h)
theorem mem_insAll (l : List Str) (y : Str) : y ∈ insAll l ↔ y ∈ l := by
  unfold insAll; rw [mem_fold]; simp
theorem sorted_fold (l : List Str) : ∀ acc : List Str, acc.Pairwise (· < ·) → (l.foldl (fun acc x => ins x acc) acc).Pairwise (· < ·) := by
  induction l with
  | nil => intro acc h; exact h
  | cons x r ih => intro acc h; rw [List.foldl_cons]; exact ih _ (sorted_ins x acc h)
theorem sorted_insAll (l : List Str) : (insAll l).Pairwise (· < ·) := sorted_fold l [] List.Pairwise.nil
theorem length_ins (x : Str) (ss : List Str) : (ins x ss).length ≤ ss.length + 1 := by
  induction ss with
  | nil => simp [ins]
  | cons y r ih => unfold ins; split <;> (try split) <;> simp <;> omega
theorem length_fold (l : List Str) : ∀ acc : List Str, (l.foldl (fun acc x => ins x acc) acc).length ≤ l.length + acc.length := by
  induction l with
  | nil => intro acc; simp
  | cons x r ih =>
    intro acc
    rw [List.foldl_cons]
    have h1 := ih (ins x acc)
    have h2 := length_ins x acc
    simp only [List.length_cons]
    omega
theorem length_insAll (l : List Str) : (insAll l).length ≤ l.length := length_fold l []
theorem pw_of {R S : Str → Str → Prop} (hRS : ∀ a b, R a b → S a b) : ∀ l : List Str, l.Pairwise R → l.Pairwise S
  | [], _ => List.Pairwise.nil
  | _ :: r, h => List.pairwise_cons.2 ⟨fun y hy => hRS _ _ ((List.pairwise_cons.1 h).1 y hy), pw_of hRS r (List.pairwise_cons.1 h).2⟩
theorem nodup_of_sorted {l : List Str} (h : l.Pairwise (· < ·)) : l.Nodup := pw_of (fun a b hab e => by subst e; exact List.lt_irrefl _ hab) l h
/-- The keys of a set, sorted, are the insertion's list. -/
theorem sort_eq (l ss : List Str) (hnd : ss.Nodup) (hm : ∀ x, x ∈ ss ↔ x ∈ l) : ss.mergeSort leB = insAll l := by
  have tr : ∀ a b c : Str, leB a b = true → leB b c = true → leB a c = true := fun a b c h1 h2 => by simp only [leB, decide_eq_true_eq] at *; exact List.le_trans h1 h2
  have to : ∀ a b : Str, (leB a b || leB b a) = true := fun a b => by simp only [leB, Bool.or_eq_true, decide_eq_true_eq]; exact List.le_total a b
  have hp : ss.Perm (insAll l) := (List.perm_ext_iff_of_nodup hnd (nodup_of_sorted (sorted_insAll l))).2 fun x => by rw [hm, mem_insAll]
  refine List.Perm.eq_of_pairwise (le := fun a b => leB a b = true) (fun a b _ _ h1 h2 => ?_) (List.pairwise_mergeSort tr to ss) (pw_of (fun a b h => ?_) _ (sorted_insAll l)) ((List.mergeSort_perm ss leB).trans hp)
  · simp only [leB, decide_eq_true_eq] at h1 h2
    exact List.le_antisymm h1 h2
  · simp only [leB, decide_eq_true_eq]
    exact List.le_of_lt h
end Go.Proofs.Ybulkbklk
