/- The plain side of escapeEnd: no Go in sight. -/
namespace Go.Proofs.Qxb6600187a.Esc

/-- A hexadecimal digit. -/
def hx (x : Int) : Bool := (decide (48 ≤ x) && decide (x ≤ 57)) || (decide (97 ≤ x) && decide (x ≤ 102)) || (decide (65 ≤ x) && decide (x ≤ 70))
/-- A byte that ends a two-byte escape. -/
def one (c : Int) : Bool := c == 34 || c == 92 || c == 47 || c == 98 || c == 102 || c == 110 || c == 114 || c == 116
/-- Four hexadecimal digits behind the u. -/
def four (zs : List Int) (i : Nat) : Bool := hx (zs.getD (i + 2) 0) && hx (zs.getD (i + 3) 0) && hx (zs.getD (i + 4) 0) && hx (zs.getD (i + 5) 0)
/-- Where the escape at i ends. -/
def ee (zs : List Int) (i : Nat) : Int :=
  if i + 1 = zs.length then -1
  else if one (zs.getD (i + 1) 0) then (i : Int) + 2
  else if zs.getD (i + 1) 0 = 117 ∧ i + 6 ≤ zs.length ∧ four zs i = true then (i : Int) + 6
  else -1

theorem getD_drop (zs : List Int) (i j : Nat) : (zs.drop i).getD j 0 = zs.getD (i + j) 0 := by simp [List.getD]
theorem getD_take (zs : List Int) (e j : Nat) (h : j < e) : (zs.take e).getD j 0 = zs.getD j 0 := by simp [List.getD, h]
theorem getD_app (zs : List Int) (p : Int) (j : Nat) (h : j < zs.length) : (zs ++ [p]).getD j 0 = zs.getD j 0 := by simp [List.getD, List.getElem?_append_left h]

/-- The four outcomes. -/
theorem ee_cases (zs : List Int) (i : Nat) :
    ee zs i = -1 ∨ (ee zs i = (i : Int) + 2 ∧ i + 1 ≠ zs.length ∧ one (zs.getD (i + 1) 0) = true) ∨
      (ee zs i = (i : Int) + 6 ∧ i + 1 ≠ zs.length ∧ one (zs.getD (i + 1) 0) = false ∧ zs.getD (i + 1) 0 = 117 ∧ i + 6 ≤ zs.length ∧ four zs i = true) := by
  unfold ee
  by_cases h1 : i + 1 = zs.length
  · simp [h1]
  · rw [if_neg h1]
    cases h2 : one (zs.getD (i + 1) 0)
    · simp only [Bool.false_eq_true, if_false]
      by_cases h3 : zs.getD (i + 1) 0 = 117 ∧ i + 6 ≤ zs.length ∧ four zs i = true
      · rw [if_pos h3]
        exact .inr (.inr ⟨rfl, h1, by simp, h3.1, h3.2.1, h3.2.2⟩)
      · rw [if_neg h3]
        exact .inl rfl
    · exact .inr (.inl ⟨by simp, h1, by simp⟩)

theorem ee_two {zs : List Int} {i : Nat} (h1 : i + 1 ≠ zs.length) (h2 : one (zs.getD (i + 1) 0) = true) : ee zs i = (i : Int) + 2 := by
  unfold ee
  rw [if_neg h1, if_pos h2]
theorem ee_six {zs : List Int} {i : Nat} (h1 : i + 1 ≠ zs.length) (h2 : one (zs.getD (i + 1) 0) = false) (h3 : zs.getD (i + 1) 0 = 117) (h4 : i + 6 ≤ zs.length) (h5 : four zs i = true) : ee zs i = (i : Int) + 6 := by
  unfold ee
  rw [if_neg h1, h2]
  simp only [Bool.false_eq_true, if_false]
  rw [if_pos ⟨h3, h4, h5⟩]

theorem ee_drop (zs : List Int) (i : Nat) (hi : i < zs.length) : ee (zs.drop i) 0 = if ee zs i = -1 then -1 else ee zs i - i := by
  have hl : (zs.drop i).length = zs.length - i := List.length_drop
  have hf : four (zs.drop i) 0 = four zs i := by simp only [four, getD_drop, Nat.zero_add]
  have h0 : (zs.drop i).getD (0 + 1) 0 = zs.getD (i + 1) 0 := by rw [getD_drop]
  have e1 : (0 + 1 = (zs.drop i).length) ↔ (i + 1 = zs.length) := by rw [hl]; omega
  have e2 : (0 + 6 ≤ (zs.drop i).length) ↔ (i + 6 ≤ zs.length) := by rw [hl]; omega
  unfold ee
  rw [h0, hf]
  simp only [e1, e2]
  by_cases h1 : i + 1 = zs.length
  · simp [h1]
  · simp only [if_neg h1]
    cases h2 : one (zs.getD (i + 1) 0)
    · simp only [Bool.false_eq_true, if_false]
      by_cases h3 : zs.getD (i + 1) 0 = 117 ∧ i + 6 ≤ zs.length ∧ four zs i = true
      · simp only [if_pos h3]
        rw [if_neg (by omega)]
        omega
      · simp only [if_neg h3, if_true]
    · simp only [if_true]
      rw [if_neg (by omega)]
      omega

/-- Where there is an escape: its bounds, and the two other texts. -/
theorem ee_local (zs : List Int) (i : Nat) (p : Int) (hi : i < zs.length) (h : ee zs i ≠ -1) :
    ∃ e : Nat, ee zs i = (e : Int) ∧ i < e ∧ e ≤ zs.length ∧ ee (zs.take e) i = (e : Int) ∧ ee (zs ++ [p]) i = (e : Int) := by
  rcases ee_cases zs i with h1 | ⟨h1, h2, h3⟩ | ⟨h1, h2, h3, h4, h5, h6⟩
  · exact absurd h1 h
  · refine ⟨i + 2, by rw [h1]; omega, by omega, by omega, ?_, ?_⟩
    · rw [ee_two]
      · omega
      · simp; omega
      · rw [getD_take _ _ _ (by omega)]; exact h3
    · rw [ee_two]
      · omega
      · simp; omega
      · rw [getD_app _ _ _ (by omega)]; exact h3
  · refine ⟨i + 6, by rw [h1]; omega, by omega, by omega, ?_, ?_⟩
    · rw [ee_six]
      · omega
      · simp; omega
      · rw [getD_take _ _ _ (by omega)]; exact h3
      · rw [getD_take _ _ _ (by omega)]; exact h4
      · simp; omega
      · unfold four at h6 ⊢
        rw [getD_take _ _ _ (by omega), getD_take _ _ _ (by omega), getD_take _ _ _ (by omega), getD_take _ _ _ (by omega)]
        exact h6
    · rw [ee_six]
      · omega
      · simp; omega
      · rw [getD_app _ _ _ (by omega)]; exact h3
      · rw [getD_app _ _ _ (by omega)]; exact h4
      · simp; omega
      · unfold four at h6 ⊢
        rw [getD_app _ _ _ (by omega), getD_app _ _ _ (by omega), getD_app _ _ _ (by omega), getD_app _ _ _ (by omega)]
        exact h6

end Go.Proofs.Qxb6600187a.Esc
