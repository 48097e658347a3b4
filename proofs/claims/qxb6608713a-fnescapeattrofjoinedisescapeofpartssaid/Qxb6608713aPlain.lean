/-
  THE PLAIN MATHEMATICS OF ESCAPING: no Go in sight. Bytes are integers.
-/
namespace Go.Proofs.Qxb6608713a

/-- What one byte becomes. -/
def escB (c : Int) : List Int :=
  if c = 38 then [38, 97, 109, 112, 59] else if c = 60 then [38, 108, 116, 59] else if c = 34 then [38, 113, 117, 111, 116, 59]
  else if c = 9 then [38, 35, 120, 57, 59] else if c = 10 then [38, 35, 120, 65, 59] else if c = 13 then [38, 35, 120, 68, 59] else [c]

/-- What a text becomes. -/
def esc (l : List Int) : List Int := l.flatMap escB

theorem esc_nil : esc [] = [] := rfl
theorem esc_append (a b : List Int) : esc (a ++ b) = esc a ++ esc b := by simp [esc]
theorem esc_one (c : Int) : esc [c] = escB c := by simp [esc]

theorem escB_pos (c : Int) : 1 ≤ (escB c).length := by
  unfold escB; repeat (first | (split; simp) | simp)

theorem escB_le (c : Int) : (escB c).length ≤ 6 := by
  unfold escB; repeat (first | (split; simp) | simp)

theorem esc_le (l : List Int) : (esc l).length ≤ 6 * l.length := by
  induction l with
  | nil => simp [esc]
  | cons c l ih =>
    have h := escB_le c
    have e : esc (c :: l) = escB c ++ esc l := by simp [esc]
    rw [e, List.length_append, List.length_cons]
    omega

theorem take_snoc_int (l : List Int) (k : Nat) (h : k < l.length) : l.take (k + 1) = l.take k ++ [l.getD k 0] := by
  rw [List.take_succ_eq_append_getElem h]
  simp [List.getD, h]

/-- The text up to the k-th byte, one byte on. -/
theorem esc_take_succ (l : List Int) (k : Nat) (h : k < l.length) : esc (l.take (k + 1)) = esc (l.take k) ++ escB (l.getD k 0) := by
  rw [take_snoc_int l k h, esc_append, esc_one]

theorem esc_split (l : List Int) (k : Nat) (h : k < l.length) : ∃ rest, esc l = esc (l.take k) ++ (escB (l.getD k 0) ++ rest) := by
  refine ⟨esc (l.drop (k + 1)), ?_⟩
  rw [← List.append_assoc, ← esc_take_succ l k h, ← esc_append, List.take_append_drop]

theorem esc_drop (l : List Int) (k : Nat) (h : k < l.length) : ∃ rest, (esc l).drop (esc (l.take k)).length = escB (l.getD k 0) ++ rest := by
  obtain ⟨rest, hr⟩ := esc_split l k h
  refine ⟨rest, ?_⟩
  rw [hr]
  simp

theorem esc_take_le (l : List Int) (k : Nat) : (esc (l.take k)).length ≤ (esc l).length := by
  have h : esc l = esc (l.take k) ++ esc (l.drop k) := by rw [← esc_append, List.take_append_drop]
  rw [h, List.length_append]
  omega

theorem esc_take_lt (l : List Int) (k : Nat) (h : k < l.length) : (esc (l.take k)).length + (escB (l.getD k 0)).length ≤ (esc l).length := by
  have h2 := esc_take_le l (k + 1)
  rw [esc_take_succ l k h, List.length_append] at h2
  exact h2

/-- The byte that stands in the escaped text at the place of the k-th byte. -/
theorem esc_at (l : List Int) (k : Nat) (h : k < l.length) : (esc l).getD (esc (l.take k)).length 0 = (escB (l.getD k 0)).getD 0 0 := by
  obtain ⟨rest, hr⟩ := esc_split l k h
  rw [hr]
  have hp := escB_pos (l.getD k 0)
  generalize escB (l.getD k 0) = x at hp ⊢
  simp only [List.getD]
  rw [List.getElem?_append_right (Nat.le_refl _), Nat.sub_self, List.getElem?_append_left (by omega)]

/-- Does 'r' stand in 'xs' at place i? -/
def hasB (xs : List Int) (i : Nat) (r : List Int) : Bool := r.isPrefixOf (xs.drop i)

theorem isPrefixOf_short (r xs : List Int) (h : xs.length < r.length) : r.isPrefixOf xs = false := by
  rw [← Bool.not_eq_true]
  intro hp
  have := (List.isPrefixOf_iff_prefix.1 hp).length_le
  omega

theorem hasB_short (xs : List Int) (i : Nat) (r : List Int) (h : xs.length < i + r.length) (hi : i ≤ xs.length) : hasB xs i r = false := by
  apply isPrefixOf_short
  rw [List.length_drop]
  omega

theorem isPrefixOf_all (r xs : List Int) (h : r.length ≤ xs.length) (hk : ∀ k, k < r.length → xs.getD k 0 = r.getD k 0) : r.isPrefixOf xs = true := by
  rw [List.isPrefixOf_iff_prefix]
  have e : r = xs.take r.length := by
    apply List.ext_getElem?
    intro k
    by_cases hlt : k < r.length
    · have h2 := hk k hlt
      have h3 : k < xs.length := by omega
      simp only [List.getD, List.getElem?_eq_getElem hlt, List.getElem?_eq_getElem h3, Option.getD_some] at h2
      rw [List.getElem?_take, if_pos hlt, List.getElem?_eq_getElem hlt, List.getElem?_eq_getElem h3, h2]
    · rw [List.getElem?_take, if_neg hlt, List.getElem?_eq_none (by omega)]
  rw [e]
  exact List.take_prefix _ _

theorem isPrefixOf_none (r xs : List Int) (h : r.length ≤ xs.length) (k : Nat) (hlt : k < r.length) (hk : xs.getD k 0 ≠ r.getD k 0) : r.isPrefixOf xs = false := by
  rw [← Bool.not_eq_true]
  intro hp
  apply hk
  obtain ⟨t, rfl⟩ := List.isPrefixOf_iff_prefix.1 hp
  simp only [List.getD]
  rw [List.getElem?_append_left hlt]

theorem getD_drop (xs : List Int) (i k : Nat) : (xs.drop i).getD k 0 = xs.getD (i + k) 0 := by simp [List.getD]

theorem hasB_all (xs : List Int) (i : Nat) (r : List Int) (h : i + r.length ≤ xs.length) (hk : ∀ k, k < r.length → xs.getD (i + k) 0 = r.getD k 0) : hasB xs i r = true :=
  isPrefixOf_all r _ (by rw [List.length_drop]; omega) (fun k hlt => by rw [getD_drop]; exact hk k hlt)

theorem hasB_none (xs : List Int) (i : Nat) (r : List Int) (h : i + r.length ≤ xs.length) (k : Nat) (hlt : k < r.length) (hk : xs.getD (i + k) 0 ≠ r.getD k 0) : hasB xs i r = false :=
  isPrefixOf_none r _ (by rw [List.length_drop]; omega) k hlt (by rw [getD_drop]; exact hk)

/-- In the escaped text, at the place of the k-th byte. -/
theorem hasB_esc (l : List Int) (k : Nat) (h : k < l.length) (r : List Int) : ∃ rest, hasB (esc l) (esc (l.take k)).length r = r.isPrefixOf (escB (l.getD k 0) ++ rest) := by
  obtain ⟨rest, hr⟩ := esc_drop l k h
  exact ⟨rest, by unfold hasB; rw [hr]⟩

end Go.Proofs.Qxb6608713a
