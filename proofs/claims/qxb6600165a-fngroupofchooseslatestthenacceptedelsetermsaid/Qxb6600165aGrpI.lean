import Derived.Test.Qxb6600165aGrpH
namespace Go.Proofs.Qxb6600165a.Grp
open Go.RowKit

/-- What the copies hold, by their blocks. -/
structure Data where
  S : Nat → Option Nat
  G : Nat → Option Nat
  X : Nat → Nat → Int
  ch : Nat → Int
  tm : Nat → Int
  ac : Nat → Int
  fl : Nat → Int
  ta : Nat → Option Addr
  tn : Nat → Nat
  tc : Nat → Nat

def Data.K (D : Data) (g : Nat) : Int := key (D.ch g) (D.ta g)
def ptr : Option Nat → Value
  | none => .pointer none
  | some g => .pointer (some ⟨g, 0, none⟩)

/-- The copies lie in the heap. -/
structure Copies (w : World) (n : Nat) (A C : Option Addr) (D : Data) : Prop where
  le : n ≤ 65536
  st : ∀ j, j < n → ∃ B, A = some ⟨B, 0, none⟩ ∧ w.cell? ⟨B, j, none⟩ = some (ptr (D.S j))
  gr : ∀ j, j < n → ∃ B, C = some ⟨B, 0, none⟩ ∧ w.cell? ⟨B, j, none⟩ = some (ptr (D.G j))
  isSt : ∀ j s, j < n → D.S j = some s → IsSt w s (D.ac s) (D.fl s)
  isGr : ∀ j g, j < n → D.G j = some g → IsGrp w g (D.X g) (D.ch g) (D.tm g) (D.ta g) (D.tn g) (D.tc g)
  apart : ∀ i j g, i < n → j < n → D.G i = some g → D.G j = some g → i = j

/-- The newest of the first k. -/
def Top (D : Data) (k : Nat) : Option Nat → Prop
  | none => ∀ j g, j < k → D.G j = some g → Zero (D.X g) = true
  | some t => (∃ j, j < k ∧ D.G j = some t) ∧ Zero (D.X t) = false ∧ ∀ j g, j < k → D.G j = some g → Zero (D.X g) = false → D.K g ≤ D.K t

theorem top_zero (D : Data) : Top D 0 none := fun _ _ h => absurd h (Nat.not_lt_zero _)
theorem Top.skip {D : Data} {k : Nat} {t : Option Nat} (h : Top D k t) (hk : ∀ g, D.G k = some g → Zero (D.X g) = true) : Top D (k + 1) t := by
  cases t with
  | none =>
    intro j g hj hg
    rcases Nat.lt_succ_iff_lt_or_eq.1 hj with hj | rfl
    · exact h j g hj hg
    · exact hk g hg
  | some t =>
    obtain ⟨⟨i, h1, h2⟩, h3, h4⟩ := h
    refine ⟨⟨i, by omega, h2⟩, h3, fun j g hj hg hz => ?_⟩
    rcases Nat.lt_succ_iff_lt_or_eq.1 hj with hj | rfl
    · exact h4 j g hj hg hz
    · rw [hk g hg] at hz
      cases hz
theorem Top.first {D : Data} {k g : Nat} (h : Top D k none) (hg : D.G k = some g) (hz : Zero (D.X g) = false) : Top D (k + 1) (some g) := by
  refine ⟨⟨k, by omega, hg⟩, hz, fun j x hj hx hzx => ?_⟩
  rcases Nat.lt_succ_iff_lt_or_eq.1 hj with hj | rfl
  · rw [h j x hj hx] at hzx
    cases hzx
  · rw [hg] at hx
    cases hx
    exact Int.le_refl _
theorem Top.keep {D : Data} {k g t : Nat} (h : Top D k (some t)) (hg : D.G k = some g) (hk : ¬ D.K t < D.K g) : Top D (k + 1) (some t) := by
  obtain ⟨⟨i, h1, h2⟩, h3, h4⟩ := h
  refine ⟨⟨i, by omega, h2⟩, h3, fun j x hj hx hz => ?_⟩
  rcases Nat.lt_succ_iff_lt_or_eq.1 hj with hj | rfl
  · exact h4 j x hj hx hz
  · rw [hg] at hx
    cases hx
    omega
theorem Top.take {D : Data} {k g t : Nat} (h : Top D k (some t)) (hg : D.G k = some g) (hz : Zero (D.X g) = false) (hk : D.K t < D.K g) : Top D (k + 1) (some g) := by
  obtain ⟨⟨i, h1, h2⟩, h3, h4⟩ := h
  refine ⟨⟨k, by omega, hg⟩, hz, fun j x hj hx hzx => ?_⟩
  rcases Nat.lt_succ_iff_lt_or_eq.1 hj with hj | rfl
  · have := h4 j x hj hx hzx
    omega
  · rw [hg] at hx
    cases hx
    exact Int.le_refl _

/-- Of the latest kind. -/
def Late (D : Data) (t g : Nat) : Prop := Zero (D.X g) = false ∧ ¬ D.K g < D.K t

/-- The one of the newest term. -/
def Newest (D : Data) (t k : Nat) : Option Nat → Prop
  | none => ∀ j g, j < k → D.G j = some g → ¬ Late D t g
  | some u => (∃ j, j < k ∧ D.G j = some u) ∧ Late D t u ∧ ∀ j g, j < k → D.G j = some g → Late D t g → D.tm g ≤ D.tm u
/-- The one of the newest accepted term, and of the longest flush. -/
def Best (D : Data) (t k : Nat) : Option (Nat × Nat) → Prop
  | none => ∀ j g, j < k → D.G j = some g → Late D t g → D.S j = none
  | some (s, o) => (∃ j, j < k ∧ D.G j = some o ∧ D.S j = some s) ∧ Late D t o ∧ ∀ j g r, j < k → D.G j = some g → Late D t g → D.S j = some r → (D.ac r < D.ac s ∨ (D.ac r = D.ac s ∧ D.fl r ≤ D.fl s))

theorem newest_zero (D : Data) (t : Nat) : Newest D t 0 none := fun _ _ h => absurd h (Nat.not_lt_zero _)
theorem best_zero (D : Data) (t : Nat) : Best D t 0 none := fun _ _ h => absurd h (Nat.not_lt_zero _)
theorem Newest.skip {D : Data} {t k : Nat} {u : Option Nat} (h : Newest D t k u) (hk : ∀ g, D.G k = some g → ¬ Late D t g) : Newest D t (k + 1) u := by
  cases u with
  | none =>
    intro j g hj hg
    rcases Nat.lt_succ_iff_lt_or_eq.1 hj with hj | rfl
    · exact h j g hj hg
    · exact hk g hg
  | some u =>
    obtain ⟨⟨i, h1, h2⟩, h3, h4⟩ := h
    refine ⟨⟨i, by omega, h2⟩, h3, fun j g hj hg hz => ?_⟩
    rcases Nat.lt_succ_iff_lt_or_eq.1 hj with hj | rfl
    · exact h4 j g hj hg hz
    · exact absurd hz (hk g hg)
theorem Newest.first {D : Data} {t k g : Nat} (h : Newest D t k none) (hg : D.G k = some g) (hl : Late D t g) : Newest D t (k + 1) (some g) := by
  refine ⟨⟨k, by omega, hg⟩, hl, fun j x hj hx hzx => ?_⟩
  rcases Nat.lt_succ_iff_lt_or_eq.1 hj with hj | rfl
  · exact absurd hzx (h j x hj hx)
  · rw [hg] at hx
    cases hx
    exact Int.le_refl _
theorem Newest.keep {D : Data} {t k g u : Nat} (h : Newest D t k (some u)) (hg : D.G k = some g) (hk : ¬ D.tm u < D.tm g) : Newest D t (k + 1) (some u) := by
  obtain ⟨⟨i, h1, h2⟩, h3, h4⟩ := h
  refine ⟨⟨i, by omega, h2⟩, h3, fun j x hj hx hz => ?_⟩
  rcases Nat.lt_succ_iff_lt_or_eq.1 hj with hj | rfl
  · exact h4 j x hj hx hz
  · rw [hg] at hx
    cases hx
    omega
theorem Newest.take {D : Data} {t k g u : Nat} (h : Newest D t k (some u)) (hg : D.G k = some g) (hl : Late D t g) (hk : D.tm u < D.tm g) : Newest D t (k + 1) (some g) := by
  obtain ⟨⟨i, h1, h2⟩, h3, h4⟩ := h
  refine ⟨⟨k, by omega, hg⟩, hl, fun j x hj hx hzx => ?_⟩
  rcases Nat.lt_succ_iff_lt_or_eq.1 hj with hj | rfl
  · have := h4 j x hj hx hzx
    omega
  · rw [hg] at hx
    cases hx
    exact Int.le_refl _
theorem Best.skip {D : Data} {t k : Nat} {b : Option (Nat × Nat)} (h : Best D t k b) (hk : ∀ g, D.G k = some g → Late D t g → D.S k = none) : Best D t (k + 1) b := by
  cases b with
  | none =>
    intro j g hj hg hl
    rcases Nat.lt_succ_iff_lt_or_eq.1 hj with hj | rfl
    · exact h j g hj hg hl
    · exact hk g hg hl
  | some b =>
    obtain ⟨s, o⟩ := b
    obtain ⟨⟨i, h1, h2⟩, h3, h4⟩ := h
    refine ⟨⟨i, by omega, h2⟩, h3, fun j g r hj hg hl hr => ?_⟩
    rcases Nat.lt_succ_iff_lt_or_eq.1 hj with hj | rfl
    · exact h4 j g r hj hg hl hr
    · rw [hk g hg hl] at hr
      cases hr
theorem Best.first {D : Data} {t k g s : Nat} (h : Best D t k none) (hg : D.G k = some g) (hl : Late D t g) (hs : D.S k = some s) : Best D t (k + 1) (some (s, g)) := by
  refine ⟨⟨k, by omega, hg, hs⟩, hl, fun j x r hj hx hlx hr => ?_⟩
  rcases Nat.lt_succ_iff_lt_or_eq.1 hj with hj | rfl
  · rw [h j x hj hx hlx] at hr
    cases hr
  · rw [hs] at hr
    cases hr
    exact .inr ⟨rfl, Int.le_refl _⟩
theorem Best.keep {D : Data} {t k s b o : Nat} (h : Best D t k (some (b, o))) (hs : D.S k = some s) (hk : ¬ (D.ac b < D.ac s ∨ (D.ac s = D.ac b ∧ D.fl b < D.fl s))) : Best D t (k + 1) (some (b, o)) := by
  obtain ⟨⟨i, h1, h2⟩, h3, h4⟩ := h
  refine ⟨⟨i, by omega, h2⟩, h3, fun j x r hj hx hlx hr => ?_⟩
  rcases Nat.lt_succ_iff_lt_or_eq.1 hj with hj | rfl
  · exact h4 j x r hj hx hlx hr
  · rw [hs] at hr
    cases hr
    omega
theorem Best.take {D : Data} {t k g s b o : Nat} (h : Best D t k (some (b, o))) (hg : D.G k = some g) (hl : Late D t g) (hs : D.S k = some s) (hk : D.ac b < D.ac s ∨ (D.ac s = D.ac b ∧ D.fl b < D.fl s)) : Best D t (k + 1) (some (s, g)) := by
  obtain ⟨⟨i, h1, h2⟩, h3, h4⟩ := h
  refine ⟨⟨k, by omega, hg, hs⟩, hl, fun j x r hj hx hlx hr => ?_⟩
  rcases Nat.lt_succ_iff_lt_or_eq.1 hj with hj | rfl
  · have := h4 j x r hj hx hlx hr
    omega
  · rw [hs] at hr
    cases hr
    exact .inr ⟨rfl, Int.le_refl _⟩

/-- What GroupOf answers. -/
def Chosen (D : Data) (n : Nat) : Option Nat → Prop
  | none => ∀ j g, j < n → D.G j = some g → Zero (D.X g) = true
  | some u => ∃ i, i < n ∧ D.G i = some u ∧ Zero (D.X u) = false ∧ (∀ j g, j < n → D.G j = some g → Zero (D.X g) = false → D.K g ≤ D.K u) ∧
      ((∃ s, D.S i = some s ∧ 0 < D.ac s ∧ ∀ j g r, j < n → D.G j = some g → Late D u g → D.S j = some r → (D.ac r < D.ac s ∨ (D.ac r = D.ac s ∧ D.fl r ≤ D.fl s))) ∨
       ((∀ j g r, j < n → D.G j = some g → Late D u g → D.S j = some r → D.ac r ≤ 0) ∧ ∀ j g, j < n → D.G j = some g → Late D u g → D.tm g ≤ D.tm u))

theorem late_swap {D : Data} {n t u : Nat} (ht : Top D n (some t)) (hj : ∃ j, j < n ∧ D.G j = some u) (hu : Late D t u) : D.K u = D.K t := by
  obtain ⟨j, h1, h2⟩ := hj
  have := ht.2.2 j u h1 h2 hu.1
  have := hu.2
  omega
theorem chosen_of {D : Data} {n t s o : Nat} (ht : Top D n (some t)) (hb : Best D t n (some (s, o))) (hs : 0 < D.ac s) : Chosen D n (some o) := by
  obtain ⟨⟨i, h1, h2, h3⟩, h4, h5⟩ := hb
  have hK := late_swap ht ⟨i, h1, h2⟩ h4
  refine ⟨i, h1, h2, h4.1, fun j g hj hg hz => by rw [hK]; exact ht.2.2 j g hj hg hz, .inl ⟨s, h3, hs, fun j g r hj hg hl hr => h5 j g r hj hg ⟨hl.1, by rw [← hK]; exact hl.2⟩ hr⟩⟩
theorem chosen_new {D : Data} {n t u : Nat} {b : Option (Nat × Nat)} (ht : Top D n (some t)) (hb : Best D t n b) (hs : ∀ s o, b = some (s, o) → D.ac s ≤ 0) (hn : Newest D t n (some u)) : Chosen D n (some u) := by
  obtain ⟨⟨i, h1, h2⟩, h4, h5⟩ := hn
  have hK := late_swap ht ⟨i, h1, h2⟩ h4
  refine ⟨i, h1, h2, h4.1, fun j g hj hg hz => by rw [hK]; exact ht.2.2 j g hj hg hz, .inr ⟨fun j g r hj hg hl hr => ?_, fun j g hj hg hl => h5 j g hj hg ⟨hl.1, by rw [← hK]; exact hl.2⟩⟩⟩
  have hl' : Late D t g := ⟨hl.1, by rw [← hK]; exact hl.2⟩
  cases b with
  | none =>
    rw [hb j g hj hg hl'] at hr
    cases hr
  | some b =>
    obtain ⟨s, o⟩ := b
    have h6 := hb.2.2 j g r hj hg hl' hr
    have h7 := hs s o rfl
    omega
theorem newest_ne {D : Data} {n t : Nat} (ht : Top D n (some t)) : ¬ Newest D t n none := fun h => by
  obtain ⟨⟨j, h1, h2⟩, h3, _⟩ := ht
  exact h j t h1 h2 ⟨h3, by omega⟩

end Go.Proofs.Qxb6600165a.Grp
