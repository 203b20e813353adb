import Derived.Test.Qxb6600165aGrpI
namespace Go.Proofs.Qxb6600165a.Grp
open Go.RowKit

theorem draws_below {w w' : World} (h : Draws w w') : Below w.heap.size w w' := by
  obtain ⟨n, rfl⟩ := h
  exact ⟨rfl, rfl, rfl, Nat.le_refl _, fun _ _ => rfl⟩

theorem Copies.below {w w' : World} {n : Nat} {A C : Option Addr} {D : Data} (h : Copies w n A C D) (hd : Draws w w') : Copies w' n A C D := by
  have hb := draws_below hd
  obtain ⟨q, rfl⟩ := hd
  exact ⟨h.le, h.st, h.gr, fun j s hj hs => (h.isSt j s hj hs).below hb, fun j g hj hg => (h.isGr j g hj hg).below hb, h.apart⟩

/-! ### The data, out of the rows -/
def numAt (w : World) (b i : Nat) : Int := match w.cell? ⟨b, i, none⟩ with | some (.int _ x) => x | _ => 0
def sliceAt (w : World) (b i : Nat) : Option Addr × Nat × Nat := match w.cell? ⟨b, i, none⟩ with | some (.slice a n c) => (a, n, c) | _ => (none, 0, 0)
def blockAt (vs : List Value) (j : Nat) : Option Nat := match vs[j]? with | some (.pointer (some a)) => some a.block | _ => none
theorem numAt_of {w : World} {b i : Nat} {k : IntKind} {x : Int} (h : w.cell? ⟨b, i, none⟩ = some (.int k x)) : numAt w b i = x := by unfold numAt; rw [h]
theorem sliceAt_of {w : World} {b i : Nat} {a : Option Addr} {n c : Nat} (h : w.cell? ⟨b, i, none⟩ = some (.slice a n c)) : sliceAt w b i = (a, n, c) := by unfold sliceAt; rw [h]

theorem copies_of {w : World} {n : Nat} {A C : Option Addr} (hn : n ≤ 65536) (hs : n = 0 ∨ ∃ B, A = some ⟨B, 0, none⟩ ∧ SRow B n w) (hg : n = 0 ∨ ∃ B, C = some ⟨B, 0, none⟩ ∧ GRow B n w) : ∃ D, Copies w n A C D := by
  rcases Nat.eq_zero_or_pos n with h0 | hpos
  · subst h0
    exact ⟨⟨fun _ => none, fun _ => none, fun _ _ => 0, fun _ => 0, fun _ => 0, fun _ => 0, fun _ => 0, fun _ => none, fun _ => 0, fun _ => 0⟩, hn, fun j hj => absurd hj (Nat.not_lt_zero _), fun j hj => absurd hj (Nat.not_lt_zero _), fun j _ hj => absurd hj (Nat.not_lt_zero _), fun j _ hj => absurd hj (Nat.not_lt_zero _), fun i _ _ hi => absurd hi (Nat.not_lt_zero _)⟩
  · rcases hs with hs | ⟨B, rfl, vs, v1, v2⟩
    · omega
    rcases hg with hg | ⟨B', rfl, us, u1, u2, u3⟩
    · omega
    have hv : ∀ j, j < n → ∃ v, vs[j]? = some v ∧ SElem w B v := fun j hj => by
      have hl : j < vs.length := by rw [v1.1]; omega
      exact ⟨vs[j], List.getElem?_eq_getElem hl, v2 _ (List.getElem_mem hl)⟩
    have hu : ∀ j, j < n → ∃ v, us[j]? = some v ∧ GElem w B' v := fun j hj => by
      have hl : j < us.length := by rw [u1.1]; omega
      exact ⟨us[j], List.getElem?_eq_getElem hl, u2 _ (List.getElem_mem hl)⟩
    have hG : ∀ j g, j < n → blockAt us j = some g → us[j]? = some (.pointer (some ⟨g, 0, none⟩)) ∧ ∃ X ch tm ta tn tc, IsGrp w g X ch tm ta tn tc := fun j g hj hb => by
      obtain ⟨v, e, hv⟩ := hu j hj
      unfold blockAt at hb
      rw [e] at hb
      rcases hv with rfl | ⟨g', X, ch, tm, ta, tn, tc, rfl, _, h⟩
      · cases hb
      · cases hb
        exact ⟨e, X, ch, tm, ta, tn, tc, h⟩
    refine ⟨⟨blockAt vs, blockAt us, fun g i => numAt w g i, fun g => numAt w g 18, fun g => numAt w g 20, fun s => numAt w s 2, fun s => numAt w s 6, fun g => (sliceAt w g 17).1, fun g => (sliceAt w g 17).2.1, fun g => (sliceAt w g 17).2.2⟩, hn, fun j hj => ⟨B, rfl, ?_⟩, fun j hj => ⟨B', rfl, ?_⟩, fun j s hj hb => ?_, fun j g hj hb => ?_, fun i j g hi hj h1 h2 => ?_⟩
    · obtain ⟨v, e, p, rfl, hp⟩ := hv j hj
      have := v1.cellAt j (by omega)
      rw [e] at this
      rw [this]
      unfold blockAt
      simp only [e]
      rcases hp with rfl | ⟨s, ac, fl, rfl, _, _⟩ <;> rfl
    · obtain ⟨v, e, hp⟩ := hu j hj
      have := u1.cellAt j (by omega)
      rw [e] at this
      rw [this]
      unfold blockAt
      simp only [e]
      rcases hp with rfl | ⟨g, X, ch, tm, ta, tn, tc, rfl, _, _⟩ <;> rfl
    · obtain ⟨v, e, p, rfl, hp⟩ := hv j hj
      simp only [blockAt, e] at hb
      rcases hp with rfl | ⟨s', ac, fl, rfl, _, h⟩
      · cases hb
      · cases hb
        simp only [numAt_of h.c2, numAt_of h.c6]
        exact h
    · obtain ⟨_, X, ch, tm, ta, tn, tc, h⟩ := hG j g hj hb
      simp only [numAt_of h.chg, numAt_of h.trm, sliceAt_of h.to]
      exact ⟨h.lt, fun i hi => by simp only [numAt_of (h.log i hi)]; exact h.log i hi, h.to, h.chg, h.trm, h.p1, h.p2, h.blk⟩
    · exact u3 i j _ (hG i g hi h1).1 (hG j g hj h2).1

/-! ### What came in, below -/
theorem ZGrp.below {w w' : World} {b o : Nat} {A1 A2 A3 : Option Addr} {n1 c1 n2 c2 n3 c3 : Nat} (h : ZGrp w b o A1 A2 A3 n1 c1 n2 c2 n3 c3) (hb : Below w.heap.size w w') : ZGrp w' b o A1 A2 A3 n1 c1 n2 c2 n3 c3 := by
  have hk : ∀ i, w'.cell? ⟨b, i, none⟩ = w.cell? ⟨b, i, none⟩ := fun i => hb.cell (p := ⟨b, i, none⟩) h.lt
  refine ⟨Nat.lt_of_lt_of_le h.lt hb.size, fun i hi => ?_, ?_, h.s1.below rfl hb, ?_, h.s2.below rfl hb, ?_, ?_, h.s4.below rfl hb, ?_, ?_, ?_, h.l1, h.l2, h.l3, h.e1, h.e2, h.e3⟩
  · rw [hk]; exact h.log i hi
  · rw [hk]; exact h.f1
  · rw [hk]; exact h.f2
  · rw [hk]; exact h.f3
  · rw [hk]; exact h.f4
  · rw [hk]; exact h.f5
  · rw [hk]; exact h.f6
  · rw [hk]; exact h.f7
theorem SGroups.below {w w' : World} {a : Option Addr} {n : Nat} (h : SGroups w a n) (hb : Below w.heap.size w w') : SGroups w' a n := by
  rcases h with h | ⟨b, off, h1, h2, h3⟩
  · exact .inl h
  · refine .inr ⟨b, off, h1, Nat.lt_of_lt_of_le h2 hb.size, fun j hj => ?_⟩
    obtain ⟨p, h4, h5⟩ := h3 j hj
    refine ⟨p, (hb.cell (p := ⟨b, off + j, none⟩) h2).trans h4, ?_⟩
    rcases h5 with h5 | ⟨gb, go, A1, A2, A3, n1, c1, n2, c2, n3, c3, h5, h6, h7⟩
    · exact .inl h5
    · exact .inr ⟨gb, go, A1, A2, A3, n1, c1, n2, c2, n3, c3, h5, h6.below hb, h7⟩
theorem ZStates.draws {w w' : World} {a : Option Addr} {n : Nat} (h : ZStates w a n) (hd : Draws w w') : ZStates w' a n := by
  obtain ⟨q, rfl⟩ := hd
  rcases h with h | ⟨b, off, h1, h2, h3⟩
  · exact .inl h
  · refine .inr ⟨b, off, h1, h2, fun j hj => ?_⟩
    obtain ⟨p, h4, h5⟩ := h3 j hj
    refine ⟨p, h4, ?_⟩
    rcases h5 with h5 | ⟨sb, so, x0, x1, x2, x3, x4, x6, x7, x8, x10, y5, y9, y11, y12, y13, h5, h6⟩
    · exact .inl h5
    · exact .inr ⟨sb, so, x0, x1, x2, x3, x4, x6, x7, x8, x10, y5, y9, y11, y12, y13, h5, h6.lt, h6.g0, h6.g1, h6.g2, h6.g3, h6.g4, h6.g5, h6.g6, h6.g7, h6.g8, h6.g9, h6.g10, h6.g11, h6.g12, h6.g13, h6.p2, h6.p6⟩

/-! ### The law's own loops -/
/-- The most changes of the recorded among the first k. -/
def Found (D : Data) (k : Nat) (f : Bool) (most : Int) : Prop :=
  (f = false ∧ ∀ j g, j < k → D.G j = some g → Zero (D.X g) = true) ∨
  (f = true ∧ (∃ j g, j < k ∧ D.G j = some g ∧ Zero (D.X g) = false ∧ D.ch g = most) ∧ ∀ j g, j < k → D.G j = some g → Zero (D.X g) = false → D.ch g ≤ most)
theorem found_zero (D : Data) (m : Int) : Found D 0 false m := .inl ⟨rfl, fun _ _ h => absurd h (Nat.not_lt_zero _)⟩
theorem Found.skip {D : Data} {k : Nat} {f : Bool} {m : Int} (h : Found D k f m) (hk : ∀ g, D.G k = some g → Zero (D.X g) = false → f = true ∧ D.ch g ≤ m) : Found D (k + 1) f m := by
  rcases h with ⟨rfl, h⟩ | ⟨rfl, ⟨i, x, h1, h2⟩, h3⟩
  · refine .inl ⟨rfl, fun j g hj hg => ?_⟩
    rcases Nat.lt_succ_iff_lt_or_eq.1 hj with hj | rfl
    · exact h j g hj hg
    · cases hz : Zero (D.X g) with
      | true => rfl
      | false =>
        have := (hk g hg hz).1
        cases this
  · refine .inr ⟨rfl, ⟨i, x, by omega, h2⟩, fun j g hj hg hz => ?_⟩
    rcases Nat.lt_succ_iff_lt_or_eq.1 hj with hj | rfl
    · exact h3 j g hj hg hz
    · exact (hk g hg hz).2
theorem Found.take {D : Data} {k g : Nat} {f : Bool} {m : Int} (h : Found D k f m) (hg : D.G k = some g) (hz : Zero (D.X g) = false) (hm : f = true → m < D.ch g) : Found D (k + 1) true (D.ch g) := by
  refine .inr ⟨rfl, ⟨k, g, by omega, hg, hz, rfl⟩, fun j x hj hx hzx => ?_⟩
  rcases Nat.lt_succ_iff_lt_or_eq.1 hj with hj | rfl
  · rcases h with ⟨rfl, h⟩ | ⟨rfl, _, h3⟩
    · rw [h j x hj hx] at hzx
      cases hzx
    · have := h3 j x hj hx hzx
      have := hm rfl
      omega
  · rw [hg] at hx
    cases hx
    exact Int.le_refl _

def Under (D : Data) (k : Nat) (most : Int) (uw : Bool) : Prop :=
  uw = true ↔ ∃ j g, j < k ∧ D.G j = some g ∧ Zero (D.X g) = false ∧ D.ch g = most ∧ (D.ta g).isSome = true
theorem under_zero (D : Data) (m : Int) : Under D 0 m false := ⟨fun h => (by cases h), fun ⟨_, _, h, _⟩ => absurd h (Nat.not_lt_zero _)⟩
theorem Under.skip {D : Data} {k : Nat} {m : Int} {uw : Bool} (h : Under D k m uw) (hk : ∀ g, D.G k = some g → Zero (D.X g) = false → D.ch g = m → (D.ta g).isSome = true → False) : Under D (k + 1) m uw := by
  constructor
  · intro e
    obtain ⟨j, g, h1, h2⟩ := h.1 e
    exact ⟨j, g, by omega, h2⟩
  · rintro ⟨j, g, h1, h2, h3, h4, h5⟩
    rcases Nat.lt_succ_iff_lt_or_eq.1 h1 with h1 | rfl
    · exact h.2 ⟨j, g, h1, h2, h3, h4, h5⟩
    · exact (hk g h2 h3 h4 h5).elim
theorem Under.take {D : Data} {k g : Nat} {m : Int} (h2 : D.G k = some g) (h3 : Zero (D.X g) = false) (h4 : D.ch g = m) (h5 : (D.ta g).isSome = true) : Under D (k + 1) m true :=
  ⟨fun _ => ⟨k, g, by omega, h2, h3, h4, h5⟩, fun _ => rfl⟩

/-- The key of the latest kind. -/
theorem key_of {D : Data} {n u i : Nat} {most : Int} {uw : Bool} (hf : Found D n true most) (hu : Under D n most uw) (hi : i < n) (hG : D.G i = some u) (hz : Zero (D.X u) = false) (hmax : ∀ j g, j < n → D.G j = some g → Zero (D.X g) = false → D.K g ≤ D.K u) :
    D.K u = 2 * most + (if uw then 1 else 0) := by
  rcases hf with ⟨h, _⟩ | ⟨_, ⟨j, g, h1, h2, h3, h4⟩, h5⟩
  · cases h
  have a1 := h5 i u hi hG hz
  have a2 := hmax j g h1 h2 h3
  have a3 : D.ch u = most := by
    unfold Data.K key at a2
    split at a2 <;> split at a2 <;> omega
  cases uw with
  | true =>
    obtain ⟨j', g', b1, b2, b3, b4, b5⟩ := hu.1 rfl
    have a4 := hmax j' g' b1 b2 b3
    unfold Data.K key at a4 ⊢
    rw [if_pos b5] at a4
    split at a4
    · rename_i h; rw [if_pos h, if_pos rfl]; omega
    · omega
  | false =>
    have : ¬ (D.ta u).isSome = true := fun h => by
      have := hu.2 ⟨i, u, hi, hG, hz, a3, h⟩
      cases this
    unfold Data.K key
    rw [if_neg this, if_neg (by simp)]
    omega

/-- The greatest of what is offered at the first k places. -/
def MaxOf (P : Nat → Int → Prop) (k : Nat) (x : Int) : Prop := (∀ j v, j < k → P j v → v ≤ x) ∧ (x = 0 ∨ ∃ j, j < k ∧ P j x)
theorem maxOf_zero (P : Nat → Int → Prop) : MaxOf P 0 0 := ⟨fun _ _ h => absurd h (Nat.not_lt_zero _), .inl rfl⟩
theorem MaxOf.keep {P : Nat → Int → Prop} {k : Nat} {x : Int} (h : MaxOf P k x) (hk : ∀ v, P k v → v ≤ x) : MaxOf P (k + 1) x := by
  refine ⟨fun j v hj hv => ?_, ?_⟩
  · rcases Nat.lt_succ_iff_lt_or_eq.1 hj with hj | rfl
    · exact h.1 j v hj hv
    · exact hk v hv
  · rcases h.2 with h | ⟨j, h1, h2⟩
    · exact .inl h
    · exact .inr ⟨j, by omega, h2⟩
theorem MaxOf.take {P : Nat → Int → Prop} {k : Nat} {x v : Int} (h : MaxOf P k x) (hv : P k v) (hx : x < v) (hk : ∀ v', P k v' → v' = v) : MaxOf P (k + 1) v := by
  refine ⟨fun j v' hj hv' => ?_, .inr ⟨k, by omega, hv⟩⟩
  rcases Nat.lt_succ_iff_lt_or_eq.1 hj with hj | rfl
  · have := h.1 j v' hj hv'
    omega
  · rw [hk v' hv']
    exact Int.le_refl _

def AccAt (D : Data) (M : Int) (j : Nat) (v : Int) : Prop := ∃ g r, D.G j = some g ∧ Zero (D.X g) = false ∧ D.K g = M ∧ D.S j = some r ∧ D.ac r = v
def FluAt (D : Data) (M acc : Int) (j : Nat) (v : Int) : Prop := ∃ g r, D.G j = some g ∧ Zero (D.X g) = false ∧ D.K g = M ∧ D.S j = some r ∧ D.ac r = acc ∧ D.fl r = v
def TrmAt (D : Data) (M : Int) (j : Nat) (v : Int) : Prop := ∃ g, D.G j = some g ∧ Zero (D.X g) = false ∧ D.K g = M ∧ D.tm g = v

end Go.Proofs.Qxb6600165a.Grp
