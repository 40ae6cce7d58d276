/-
  THE PLAIN MATHEMATICS of 'difference' and of its scan model: lists alone, no Go in sight. Own text.
-/
namespace Go.Proofs.Qxb6602186aMods.Dif

/-- Induction from the right, for plain use. -/
theorem snoc_ind {α : Type} {P : List α → Prop} (h0 : P []) (h1 : ∀ l x, P l → P (l ++ [x])) : ∀ l, P l := by
  intro l
  have h : ∀ n (l : List α), l.length = n → P l := by
    intro n
    induction n with
    | zero => intro l hl; rw [List.length_eq_zero_iff.mp hl]; exact h0
    | succ n ih =>
      intro l hl
      have hne : l ≠ [] := by intro e; rw [e] at hl; simp at hl
      rw [← List.dropLast_concat_getLast hne]
      exact h1 _ _ (ih _ (by simp; omega))
  exact h _ l rfl

/-- The first occurrences, in their order. -/
def ddup (xs : List (List UInt8)) : List (List UInt8) := xs.foldl (fun D x => if x ∈ D then D else D ++ [x]) []

theorem ddup_nil : ddup ([] : List (List UInt8)) = [] := rfl
theorem ddup_snoc (xs : List (List UInt8)) (x : List UInt8) : ddup (xs ++ [x]) = if x ∈ ddup xs then ddup xs else ddup xs ++ [x] := by
  unfold ddup
  rw [List.foldl_append]
  rfl

theorem mem_ddup (xs : List (List UInt8)) : ∀ y, y ∈ ddup xs ↔ y ∈ xs := by
  refine snoc_ind (P := fun xs => ∀ y, y ∈ ddup xs ↔ y ∈ xs) (by intro y; simp [ddup_nil]) (fun l x ih => ?_) xs
  intro y
  rw [ddup_snoc]
  by_cases h : x ∈ ddup l
  · rw [if_pos h]
    simp only [List.mem_append, List.mem_singleton, ih]
    constructor
    · exact Or.inl
    · rintro (h' | rfl)
      · exact h'
      · exact (ih _).1 h
  · rw [if_neg h]
    simp [List.mem_append, ih]

theorem nodup_ddup (xs : List (List UInt8)) : (ddup xs).Nodup := by
  refine snoc_ind (P := fun xs => (ddup xs).Nodup) (by simp [ddup_nil]) (fun l x ih => ?_) xs
  rw [ddup_snoc]
  by_cases h : x ∈ ddup l
  · rw [if_pos h]; exact ih
  · rw [if_neg h, List.nodup_append]
    refine ⟨ih, by simp, ?_⟩
    intro a ha b hb e
    simp at hb
    subst hb
    subst e
    exact h ha

theorem ddup_of_nodup (xs : List (List UInt8)) (h : xs.Nodup) : ddup xs = xs := by
  have key : ∀ xs : List (List UInt8), xs.Nodup → ddup xs = xs := by
    refine snoc_ind (P := fun xs => xs.Nodup → ddup xs = xs) (by simp [ddup_nil]) (fun l x ih => ?_)
    intro hn
    rw [List.nodup_append] at hn
    obtain ⟨h1, _, h3⟩ := hn
    rw [ddup_snoc, if_neg, ih h1]
    rw [mem_ddup]
    intro hx
    exact h3 x hx x (by simp) rfl
  exact key xs h

/-- What is left of 'before' when the strings of 'ys' are struck. -/
def left (xs ys : List (List UInt8)) : List (List UInt8) := (ddup xs).filter (fun x => decide (x ∉ ys))

theorem left_nil (xs : List (List UInt8)) : left xs [] = ddup xs := by simp [left]
theorem mem_left (xs ys : List (List UInt8)) (y : List UInt8) : y ∈ left xs ys ↔ y ∈ xs ∧ y ∉ ys := by simp [left, mem_ddup]
theorem nodup_left (xs ys : List (List UInt8)) : (left xs ys).Nodup := (nodup_ddup xs).filter _
/-- One more is struck. -/
theorem left_snoc (xs ys : List (List UInt8)) (y : List UInt8) : left xs (ys ++ [y]) = (left xs ys).filter (fun x => decide (x ≠ y)) := by
  unfold left
  rw [List.filter_filter]
  congr 1
  funext x
  by_cases h1 : x ∈ ys <;> by_cases h2 : x = y <;> simp [h1, h2]
/-- .. one that is not there: nothing turns. -/
theorem left_snoc_not (xs ys : List (List UInt8)) (y : List UInt8) (h : y ∉ left xs ys) : left xs (ys ++ [y]) = left xs ys := by
  rw [left_snoc, List.filter_eq_self]
  intro x hx
  simp
  intro e
  exact h (e ▸ hx)
theorem length_strike (l : List (List UInt8)) (y : List UInt8) (hn : l.Nodup) (hy : y ∈ l) : (l.filter (fun x => decide (x ≠ y))).length + 1 = l.length := by
  induction l with
  | nil => simp at hy
  | cons a l ih =>
    rw [List.nodup_cons] at hn
    by_cases e : a = y
    · subst e
      rw [List.filter_cons, if_neg (by simp), List.filter_eq_self.2, List.length_cons]
      intro x hx
      simp
      intro e'
      exact hn.1 (e' ▸ hx)
    · rw [List.filter_cons, if_pos (by simpa using e), List.length_cons, List.length_cons]
      have : y ∈ l := by
        rcases List.mem_cons.1 hy with h | h
        · exact absurd h.symm e
        · exact h
      have := ih hn.2 this
      omega
theorem length_left_snoc (xs ys : List (List UInt8)) (y : List UInt8) (h : y ∈ left xs ys) : (left xs (ys ++ [y])).length + 1 = (left xs ys).length := by
  rw [left_snoc]
  exact length_strike _ y (nodup_left xs ys) h

/-- How many of 'ys' (read from the left) are not among 'xs', or stand earlier in 'ys'. -/
def added (xs : List (List UInt8)) : List (List UInt8) → List (List UInt8) → Nat
  | _, [] => 0
  | pre, y :: ys => (if y ∈ xs ∧ y ∉ pre then 0 else 1) + added xs (pre ++ [y]) ys

theorem added_snoc (xs : List (List UInt8)) (y : List UInt8) : ∀ ys pre, added xs pre (ys ++ [y]) = added xs pre ys + (if y ∈ xs ∧ y ∉ pre ++ ys then 0 else 1)
  | [], pre => by simp [added]
  | z :: ys, pre => by
    rw [List.cons_append, added, added, added_snoc xs y ys (pre ++ [z])]
    simp only [List.append_assoc, List.singleton_append]
    omega

theorem added_le (xs : List (List UInt8)) : ∀ ys pre, added xs pre ys ≤ ys.length
  | [], pre => by simp [added]
  | z :: ys, pre => by
    have := added_le xs ys (pre ++ [z])
    rw [added, List.length_cons]
    split <;> omega

/-- What was added, what was removed, and the lengths. -/
theorem balance (xs : List (List UInt8)) (ys : List (List UInt8)) : added xs [] ys + (ddup xs).length = ys.length + (left xs ys).length := by
  refine snoc_ind (P := fun ys => added xs [] ys + (ddup xs).length = ys.length + (left xs ys).length) (by simp [added, left_nil]) (fun l y ih => ?_) ys
  rw [added_snoc, List.length_append, List.length_singleton, List.nil_append]
  by_cases h : y ∈ left xs l
  · have h1 := length_left_snoc xs l y h
    rw [mem_left] at h
    rw [if_pos h]
    omega
  · have h1 := left_snoc_not xs l y h
    rw [mem_left] at h
    rw [if_neg h, h1]
    omega

/-- How many first occurrences in 'xs' are not among 'ys'. -/
def removed (ys : List (List UInt8)) : List (List UInt8) → List (List UInt8) → Nat
  | _, [] => 0
  | pre, x :: xs => (if x ∉ pre ∧ x ∉ ys then 1 else 0) + removed ys (pre ++ [x]) xs

theorem removed_snoc (ys : List (List UInt8)) (x : List UInt8) : ∀ xs pre, removed ys pre (xs ++ [x]) = removed ys pre xs + (if x ∉ pre ++ xs ∧ x ∉ ys then 1 else 0)
  | [], pre => by simp [removed]
  | z :: xs, pre => by
    rw [List.cons_append, removed, removed, removed_snoc ys x xs (pre ++ [z])]
    simp only [List.append_assoc, List.singleton_append]
    omega

theorem removed_le (ys : List (List UInt8)) : ∀ xs pre, removed ys pre xs ≤ xs.length
  | [], pre => by simp [removed]
  | z :: xs, pre => by
    have := removed_le ys xs (pre ++ [z])
    rw [removed, List.length_cons]
    split <;> omega

theorem removed_eq (ys : List (List UInt8)) (xs : List (List UInt8)) : removed ys [] xs = (left xs ys).length := by
  refine snoc_ind (P := fun xs => removed ys [] xs = (left xs ys).length) (by simp [removed, left, ddup_nil]) (fun l x ih => ?_) xs
  rw [removed_snoc, ih, List.nil_append]
  unfold left
  rw [ddup_snoc]
  have hm := mem_ddup l x
  by_cases h : x ∈ ddup l
  · rw [if_pos h, if_neg (by intro hh; exact hh.1 (hm.1 h))]
    rfl
  · rw [if_neg h, List.filter_append, List.length_append]
    by_cases h2 : x ∈ ys
    · rw [if_neg (by intro hh; exact hh.2 h2)]
      simp [h2]
    · rw [if_pos ⟨fun hh => h (hm.2 hh), h2⟩]
      simp [h2]

end Go.Proofs.Qxb6602186aMods.Dif
