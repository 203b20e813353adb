/- The plain side of skipNumber: no Go in sight. -/
namespace Go.Proofs.Qxb6001747a.Num

/-- An ASCII digit. -/
def dig (c : UInt8) : Bool := decide (48 ≤ c.toNat) && decide (c.toNat ≤ 57)
/-- How many digits stand at the head. -/
def nd : List UInt8 → Nat
  | [] => 0
  | c :: l => if dig c then nd l + 1 else 0
/-- The text without a minus at its head. -/
def tm : List UInt8 → List UInt8
  | [] => []
  | c :: l => if c = 45 then l else c :: l
/-- What skipNumber answers: what follows, and whether it is a decimal. -/
def sk2 (n : Nat) (r : List UInt8) : Option (List UInt8 × Bool) :=
  match r with
  | [] => if 15 < n then none else some ([], false)
  | c :: q => if c = 46 then (if 12 < n ∨ nd q = 0 ∨ 3 < nd q then none else some (q.drop (nd q), true)) else if 15 < n then none else some (c :: q, false)
def sk (l : List UInt8) : Option (List UInt8 × Bool) := if nd (tm l) = 0 then none else sk2 (nd (tm l)) ((tm l).drop (nd (tm l)))

/-- No digit at the head. -/
def nodig : List UInt8 → Prop
  | [] => True
  | c :: _ => dig c = false

theorem nd_le : ∀ l : List UInt8, nd l ≤ l.length
  | [] => Nat.le_refl _
  | c :: l => by
    have := nd_le l
    simp only [nd, List.length_cons]
    split <;> omega

theorem nd_zero {l : List UInt8} (h : nodig l) : nd l = 0 := by
  cases l with
  | nil => rfl
  | cons c l => simp [nd, show dig c = false from h]

theorem nd_app : ∀ (ws r : List UInt8), (∀ c ∈ ws, dig c = true) → nodig r → nd (ws ++ r) = ws.length
  | [], r, _, h => by simpa using nd_zero h
  | c :: ws, r, hw, h => by
    simp only [List.cons_append, nd, hw c (by simp), if_true, List.length_cons]
    rw [nd_app ws r (fun d hd => hw d (by simp [hd])) h]

/-- The digits at the head, and what follows. -/
theorem nd_split : ∀ l : List UInt8, ∃ ws r, l = ws ++ r ∧ ws.length = nd l ∧ (∀ c ∈ ws, dig c = true) ∧ nodig r ∧ l.drop (nd l) = r
  | [] => ⟨[], [], rfl, rfl, by simp, trivial, rfl⟩
  | c :: l => by
    by_cases hc : dig c = true
    · obtain ⟨ws, r, h1, h2, h3, h4, h5⟩ := nd_split l
      refine ⟨c :: ws, r, by rw [h1]; rfl, by simp [nd, hc, h2], ?_, h4, by simp [nd, hc, h5]⟩
      intro d hd
      rcases List.mem_cons.1 hd with rfl | hd
      · exact hc
      · exact h3 d hd
    · have hc' : dig c = false := by simpa using hc
      exact ⟨[], c :: l, rfl, by simp [nd, hc'], by simp, hc', by simp [nd, hc']⟩

theorem tm_split : ∀ l : List UInt8, ∃ sg, l = sg ++ tm l ∧ (sg = [] ∨ sg = [45])
  | [] => ⟨[], rfl, .inl rfl⟩
  | c :: l => by
    by_cases hc : c = 45
    · exact ⟨[45], by simp [tm, hc], .inr rfl⟩
    · exact ⟨[], by simp [tm, hc], .inl rfl⟩

/-- No minus at the head. -/
def nominus : List UInt8 → Prop
  | [] => True
  | c :: _ => c ≠ 45
theorem tm_of {r : List UInt8} (h : nominus r) : tm r = r := by
  cases r with
  | nil => rfl
  | cons c r => simp [tm, show c ≠ 45 from h]

theorem dig45 : dig 45 = false := by decide
theorem dig46 : dig 46 = false := by decide

theorem nominus_app {ws r : List UInt8} (hw : ∀ c ∈ ws, dig c = true) (h : ws = [] → nominus r) : nominus (ws ++ r) := by
  cases ws with
  | nil => simpa using h rfl
  | cons c ws =>
    show c ≠ 45
    intro e
    have := hw c (by simp)
    rw [e, dig45] at this
    cases this

/-- skipNumber at a text that is cut into its parts. -/
theorem sk_at {sg ws r : List UInt8} (hs : sg = [45] ∨ (sg = [] ∧ (ws = [] → nominus r))) (hw : ∀ c ∈ ws, dig c = true) (hr : nodig r) :
    sk (sg ++ (ws ++ r)) = if ws.length = 0 then none else sk2 ws.length r := by
  have ht : tm (sg ++ (ws ++ r)) = ws ++ r := by
    rcases hs with rfl | ⟨rfl, h⟩
    · simp [tm]
    · show tm (ws ++ r) = ws ++ r
      exact tm_of (nominus_app hw h)
  unfold sk
  rw [ht, nd_app ws r hw hr, List.drop_left]

/-- What is accepted, in its parts. -/
theorem sk_parts {l rest : List UInt8} {d : Bool} (h : sk l = some (rest, d)) :
    ∃ sg ws fs, l = sg ++ (ws ++ (fs ++ rest)) ∧ (sg = [] ∨ sg = [45]) ∧ (∀ c ∈ ws, dig c = true) ∧ 1 ≤ ws.length ∧ nodig rest ∧
      ((d = false ∧ fs = [] ∧ ws.length ≤ 15 ∧ rest.head? ≠ some 46) ∨ (d = true ∧ ws.length ≤ 12 ∧ ∃ ds, fs = 46 :: ds ∧ (∀ c ∈ ds, dig c = true) ∧ 1 ≤ ds.length ∧ ds.length ≤ 3)) := by
  unfold sk at h
  obtain ⟨sg, hl, hsg⟩ := tm_split l
  obtain ⟨ws, r, h1, h2, h3, h4, h5⟩ := nd_split (tm l)
  rw [h5] at h
  rw [← h2] at h
  split at h
  · cases h
  rename_i h0
  cases r with
  | nil =>
    simp only [sk2] at h
    split at h
    · cases h
    · simp at h
      obtain ⟨rfl, rfl⟩ := h
      exact ⟨sg, ws, [], by rw [hl, h1]; simp, hsg, h3, by omega, trivial, .inl ⟨rfl, rfl, by omega, by simp⟩⟩
  | cons c q =>
    simp only [sk2] at h
    by_cases hc : c = 46
    · rw [if_pos hc] at h
      split at h
      · cases h
      rename_i hn
      simp at h
      obtain ⟨hq, rfl⟩ := h
      obtain ⟨ds, q2, g1, g2, g3, g4, g5⟩ := nd_split q
      rw [g5] at hq
      subst hq
      exact ⟨sg, ws, 46 :: ds, by rw [hl, h1, hc, g1]; simp, hsg, h3, by omega, g4, .inr ⟨rfl, by omega, ds, rfl, g3, by omega, by omega⟩⟩
    · rw [if_neg hc] at h
      split at h
      · cases h
      simp at h
      obtain ⟨rfl, rfl⟩ := h
      exact ⟨sg, ws, [], by rw [hl, h1]; simp, hsg, h3, by omega, h4, .inl ⟨rfl, rfl, by omega, by simpa using hc⟩⟩

/-- A number is accepted the same before any text that cannot continue it. -/
theorem sk_follow {sg ws fs rest t : List UInt8} {d : Bool} (hsg : sg = [] ∨ sg = [45]) (hw : ∀ c ∈ ws, dig c = true) (h1 : 1 ≤ ws.length)
    (hd : (d = false ∧ fs = [] ∧ ws.length ≤ 15 ∧ rest.head? ≠ some 46) ∨ (d = true ∧ ws.length ≤ 12 ∧ ∃ ds, fs = 46 :: ds ∧ (∀ c ∈ ds, dig c = true) ∧ 1 ≤ ds.length ∧ ds.length ≤ 3)) (ht : nodig t) (ht2 : t.head? ≠ some 46) :
    sk (sg ++ (ws ++ fs) ++ t) = some (t, d) := by
  have hs : sg = [45] ∨ (sg = [] ∧ (ws = [] → nominus (fs ++ t))) := by
    rcases hsg with h | h
    · exact .inr ⟨h, fun e => by rw [e] at h1; simp at h1⟩
    · exact .inl h
  have hr : nodig (fs ++ t) := by
    rcases hd with ⟨_, rfl, _⟩ | ⟨_, _, ds, rfl, _⟩
    · simpa using ht
    · exact dig46
  rw [show sg ++ (ws ++ fs) ++ t = sg ++ (ws ++ (fs ++ t)) by simp, sk_at hs hw hr, if_neg (by omega)]
  rcases hd with ⟨rfl, rfl, h15, _⟩ | ⟨rfl, h12, ds, rfl, hds, g1, g3⟩
  · cases t with
    | nil => simp [sk2]; omega
    | cons c t =>
      have hc : c ≠ 46 := by simpa using ht2
      simp only [List.nil_append, sk2, if_neg hc]
      rw [if_neg (by omega)]
  · simp only [List.cons_append, sk2, if_true]
    rw [nd_app ds t hds ht, if_neg (by omega), List.drop_left]

end Go.Proofs.Qxb6001747a.Num
