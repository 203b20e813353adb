import Derived.Test.Qxb6600165aGrpC
import Derived.Deep.Slices
import Derived.Deep.Strs
import Derived.ShutString
import Derived.ChangeOld
namespace Go.Proofs.Qxb6600165a.Grp
open Go.ChangeShapes Go.WideShapes Go.ChangeAt Go.RowKit

theorem own : ownKnob Try.prog.godebug = none := by kernel_rfl
theorem laidOut : laidOutB Try.prog = true := by kernel_rfl
theorem cells5 : Try.prog.cellsOf 5 = 1 := by kernel_rfl
theorem cells4 : Try.prog.cellsOf 4 = 1 := by kernel_rfl
theorem cells9 : Try.prog.cellsOf 9 = 1 := by kernel_rfl
theorem cells32 : Try.prog.cellsOf 32 = 1 := by kernel_rfl
theorem cells34 : Try.prog.cellsOf 34 = 16 := by kernel_rfl
theorem cells36 : Try.prog.cellsOf 36 = 1 := by kernel_rfl
theorem cells42 : Try.prog.cellsOf 42 = 1 := by kernel_rfl
theorem cells47 : Try.prog.cellsOf 47 = 14 := by kernel_rfl
theorem cells50 : Try.prog.cellsOf 50 = 1 := by kernel_rfl
theorem cells51 : Try.prog.cellsOf 51 = 1 := by kernel_rfl
theorem cells53 : Try.prog.cellsOf 53 = 23 := by kernel_rfl
theorem cells55 : Try.prog.cellsOf 55 = 1 := by kernel_rfl

theorem one_of {cs : List Value} {o : Nat} {v : Value} (h : (cs.drop o).take 1 = [v]) : cs[o]? = some v := by
  have := congrArg (fun l : List Value => l[0]?) h
  simpa [List.getElem?_take, List.getElem?_drop] using this
theorem some_of {α : Type} {xs : List α} {i : Nat} {y : Option α} (h : y = xs[i]?) (hi : i < xs.length) : ∃ z, y = some z := ⟨_, h.trans (List.getElem?_eq_getElem hi)⟩

section
variable {H : Type} {enc : TypeId × Value → H} {w : World} {base : Nat} {spare : Nat → Bool} {held : Bool} {fuel : Nat} {x : DataW H × List MemPlace}

theorem strs_of {v : Value} (h : DataW.trod enc Try.prog w base spare held fuel 36 [v] = some x) : ∃ a n c, v = .slice a n c ∧ n ≤ maxLen ∧ Strs w a n ∧ (a = none → n = 0) := by
  rcases Deep.open_strs Try.underlying36 Try.underlying9 cells9 h with ⟨hcs, _⟩ | ⟨a, len, cap, m, S, hcs, _, hl, hm, hmm, _, hx⟩
  · simp at hcs
    subst hcs
    exact ⟨none, 0, 0, rfl, Nat.zero_le _, .inl rfl, fun _ => rfl⟩
  · simp at hcs
    subst hcs
    have hml : len ≤ m := by rw [hmm]; split <;> omega
    refine ⟨some a, len, cap, rfl, by omega, ?_, by simp⟩
    by_cases h0 : len = 0
    · exact .inl h0
    · right
      obtain ⟨b, off, spot⟩ := a
      have hspot : spot = none := by simpa [Addr.add] using World.cell?_spot (hx 0 (by omega)).1
      subst hspot
      have hlt := World.block_lt_of_cell? w _ (hx 0 (by omega)).1
      refine ⟨b, off, rfl, by simpa [Addr.add] using hlt, fun j hj => ⟨S j, ?_, (hx j (by omega)).2⟩⟩
      rw [← add_plain]
      exact (hx j (by omega)).1

/-- Sixteen bytes. -/
theorem id_of {cs : List Value} (h : DataW.trod enc Try.prog w base spare held fuel 34 cs = some x) : ∀ i, i < 16 → ∃ z : Int, cs[i]? = some (.int .u8 z) := by
  obtain ⟨xs, m, _, _, _, hl, hf⟩ := DataW.trod_array Try.underlying34 h
  intro i hi
  obtain ⟨y, hy⟩ := some_of (hf i hi) (by omega)
  obtain ⟨z, e, _⟩ := DataW.trod_int Try.underlying5 hy
  rw [cells5, Nat.mul_one] at e
  exact ⟨z, one_of e⟩

theorem dirs_of {v : Value} (h : DataW.trod enc Try.prog w base spare held fuel 51 [v] = some x) : ∃ a n c, v = .slice a n c ∧ n ≤ maxLen ∧ Dirs w a n ∧ (a = none → n = 0) := by
  rcases Deep.open_slice Try.underlying51 h with ⟨hcs, _⟩ | ⟨a, len, cap, m, k, D, Pl, hcs, _, hl, hm, hmm, _, hx⟩
  · simp at hcs
    subst hcs
    exact ⟨none, 0, 0, rfl, Nat.zero_le _, .inl rfl, fun _ => rfl⟩
  · simp at hcs
    subst hcs
    have hml : len ≤ m := by rw [hmm]; split <;> omega
    refine ⟨some a, len, cap, rfl, by omega, ?_, by simp⟩
    rw [cells34] at hx
    by_cases h0 : len = 0
    · exact .inl h0
    · right
      obtain ⟨b, off, spot⟩ := a
      obtain ⟨cs0, h1, h2⟩ := hx 0 (by omega)
      obtain ⟨_, hlen, hcell⟩ := World.cells?_some h1
      have hc0 := hcell 0 (by omega)
      rw [List.getElem?_eq_getElem (by omega)] at hc0
      have hspot : spot = none := by
        have := World.cell?_spot hc0
        cases spot
        · rfl
        · simp [Addr.add] at this
      subst hspot
      have hlt := World.block_lt_of_cell? w _ hc0
      refine ⟨b, off, rfl, by simpa [Addr.add] using hlt, fun j hj => ?_⟩
      obtain ⟨cs', h3, h4⟩ := hx (j / 16) (by omega)
      obtain ⟨_, hlen', hcell'⟩ := World.cells?_some h3
      obtain ⟨z, hz⟩ := id_of h4 (j % 16) (by omega)
      have := hcell' (j % 16) (by omega)
      rw [hz, add_plain, add_plain, Nat.add_assoc, show j / 16 * 16 + j % 16 = j by omega] at this
      exact ⟨z, this⟩

theorem u64_of {cs : List Value} {o : Nat} (h : DataW.trod enc Try.prog w base spare held fuel 32 ((cs.drop o).take (Try.prog.cellsOf 32)) = some x) : ∃ z : Int, cs[o]? = some (.int .u64 z) ∧ 0 ≤ z := by
  rw [cells32] at h
  obtain ⟨z, e, _, hw⟩ := DataW.trod_int Try.underlying32 h
  refine ⟨z, one_of e, ?_⟩
  simp [Lit.wf, IntKind.min, IntKind.max, IntKind.signed, IntKind.bits] at hw
  omega
theorem bool_of {cs : List Value} {o : Nat} (h : DataW.trod enc Try.prog w base spare held fuel 4 ((cs.drop o).take (Try.prog.cellsOf 4)) = some x) : ∃ z : Bool, cs[o]? = some (.bool z) := by
  rw [cells4] at h
  obtain ⟨z, e, _⟩ := DataW.trod_bool Try.underlying4 h
  exact ⟨z, one_of e⟩
theorem u8_of {cs : List Value} {o : Nat} (h : DataW.trod enc Try.prog w base spare held fuel 5 ((cs.drop o).take (Try.prog.cellsOf 5)) = some x) : ∃ z : Int, cs[o]? = some (.int .u8 z) := by
  rw [cells5] at h
  obtain ⟨z, e, _⟩ := DataW.trod_int Try.underlying5 h
  exact ⟨z, one_of e⟩
theorem u32_of {cs : List Value} {o : Nat} (h : DataW.trod enc Try.prog w base spare held fuel 42 ((cs.drop o).take (Try.prog.cellsOf 42)) = some x) : ∃ z : Int, cs[o]? = some (.int .u32 z) := by
  rw [cells42] at h
  obtain ⟨z, e, _⟩ := DataW.trod_int Try.underlying42 h
  exact ⟨z, one_of e⟩

theorem one_cell {cs : List Value} {o n : Nat} (hl : cs.length = n) (ho : o < n) : ∃ v, (cs.drop o).take 1 = [v] ∧ cs[o]? = some v := by
  refine ⟨cs[o], ?_, List.getElem?_eq_getElem (by omega)⟩
  rw [List.drop_eq_getElem_cons (by omega)]
  rfl

/-- A pointer to a group, as the reader meets it. -/
theorem zptr_of {v : Value} (h : DataW.trod enc Try.prog w base spare held fuel 50 [v] = some x) : ∃ p, v = .pointer p ∧ ZPtr w p := by
  rcases DataW.trod_pointer Try.underlying50 h with ⟨hcs, _⟩ | ⟨a, cs, y, m, _, hcs, _, hcells, hy⟩
  · simp at hcs
    exact ⟨none, hcs, .inl rfl⟩
  · simp at hcs
    refine ⟨some a, hcs, .inr ?_⟩
    rw [cells53] at hcells
    obtain ⟨_, hlen, hcell⟩ := World.cells?_some hcells
    obtain ⟨xs, k, _, _, _, hxl, hf⟩ := DataW.trod_struct Try.underlying53 hy
    have hxl : xs.length = 8 := hxl
    obtain ⟨b, off, spot⟩ := a
    have h0 := hcell 0 (by omega)
    rw [List.getElem?_eq_getElem (by omega)] at h0
    have hspot : spot = none := by simpa [Addr.add] using World.cell?_spot h0
    subst hspot
    have hlt : b < w.heap.size := by simpa [Addr.add] using World.block_lt_of_cell? w _ h0
    have hk : ∀ i, i < 23 → w.cell? ⟨b, off + i, none⟩ = cs[i]? := fun i hi => by rw [← add_plain]; exact hcell i hi
    obtain ⟨y0, t0⟩ := some_of (hf 0 _ rfl) (by omega)
    obtain ⟨y1, t1⟩ := some_of (hf 1 _ rfl) (by omega)
    obtain ⟨y2, t2⟩ := some_of (hf 2 _ rfl) (by omega)
    obtain ⟨y3, t3⟩ := some_of (hf 3 _ rfl) (by omega)
    obtain ⟨y4, t4⟩ := some_of (hf 4 _ rfl) (by omega)
    obtain ⟨y5, t5⟩ := some_of (hf 5 _ rfl) (by omega)
    obtain ⟨y6, t6⟩ := some_of (hf 6 _ rfl) (by omega)
    obtain ⟨y7, t7⟩ := some_of (hf 7 _ rfl) (by omega)
    have t0 : DataW.trod enc Try.prog w base spare held k 34 ((cs.drop 0).take (Try.prog.cellsOf 34)) = some y0 := t0
    have t1 : DataW.trod enc Try.prog w base spare held k 36 ((cs.drop 16).take (Try.prog.cellsOf 36)) = some y1 := t1
    have t2 : DataW.trod enc Try.prog w base spare held k 36 ((cs.drop 17).take (Try.prog.cellsOf 36)) = some y2 := t2
    have t4 : DataW.trod enc Try.prog w base spare held k 51 ((cs.drop 19).take (Try.prog.cellsOf 51)) = some y4 := t4
    rw [cells34] at t0
    rw [cells36] at t1 t2
    rw [cells51] at t4
    obtain ⟨v1, e1, g1⟩ := one_cell (o := 16) hlen (by omega)
    obtain ⟨v2, e2, g2⟩ := one_cell (o := 17) hlen (by omega)
    obtain ⟨v4, e4, g4⟩ := one_cell (o := 19) hlen (by omega)
    rw [e1] at t1
    rw [e2] at t2
    rw [e4] at t4
    obtain ⟨A1, n1, c1, rfl, l1, s1, z1⟩ := strs_of t1
    obtain ⟨A2, n2, c2, rfl, l2, s2, z2⟩ := strs_of t2
    obtain ⟨A3, n3, c3, rfl, l3, s3, z3⟩ := dirs_of t4
    obtain ⟨q3, f3, p3⟩ := u64_of t3
    obtain ⟨q5, f5, p5⟩ := u64_of t5
    obtain ⟨q6, f6, p6⟩ := u64_of t6
    obtain ⟨q7, f7, p7⟩ := u64_of t7
    refine ⟨b, off, A1, A2, A3, n1, c1, n2, c2, n3, c3, rfl, hlt, fun i hi => ?_, (hk 16 (by omega)).trans g1, s1, (hk 17 (by omega)).trans g2, s2, ⟨q3, (hk 18 (by omega)).trans f3, p3⟩, (hk 19 (by omega)).trans g4, s3, ⟨q5, (hk 20 (by omega)).trans f5, p5⟩, ⟨q6, (hk 21 (by omega)).trans f6⟩, ⟨q7, (hk 22 (by omega)).trans f7⟩, l1, l2, l3, z1, z2, z3⟩
    obtain ⟨z, hz⟩ := id_of t0 i hi
    refine ⟨z, (hk i (by omega)).trans ?_⟩
    simpa [List.getElem?_take, hi] using hz

/-- A pointer to a state, as the reader meets it. -/
theorem sptr_of {v : Value} (h : DataW.trod enc Try.prog w base spare held fuel 55 [v] = some x) : ∃ p, v = .pointer p ∧ ZSPtr w p := by
  rcases DataW.trod_pointer Try.underlying55 h with ⟨hcs, _⟩ | ⟨a, cs, y, m, _, hcs, _, hcells, hy⟩
  · simp at hcs
    exact ⟨none, hcs, .inl rfl⟩
  · simp at hcs
    refine ⟨some a, hcs, .inr ?_⟩
    rw [cells47] at hcells
    obtain ⟨_, hlen, hcell⟩ := World.cells?_some hcells
    obtain ⟨xs, k, _, _, _, hxl, hf⟩ := DataW.trod_struct Try.underlying47 hy
    have hxl : xs.length = 14 := hxl
    obtain ⟨b, off, spot⟩ := a
    have h0 := hcell 0 (by omega)
    rw [List.getElem?_eq_getElem (by omega)] at h0
    have hspot : spot = none := by simpa [Addr.add] using World.cell?_spot h0
    subst hspot
    have hlt : b < w.heap.size := by simpa [Addr.add] using World.block_lt_of_cell? w _ h0
    have hk : ∀ i, i < 14 → w.cell? ⟨b, off + i, none⟩ = cs[i]? := fun i hi => by rw [← add_plain]; exact hcell i hi
    obtain ⟨_, t0⟩ := some_of (hf 0 _ rfl) (by omega)
    obtain ⟨_, t1⟩ := some_of (hf 1 _ rfl) (by omega)
    obtain ⟨_, t2⟩ := some_of (hf 2 _ rfl) (by omega)
    obtain ⟨_, t3⟩ := some_of (hf 3 _ rfl) (by omega)
    obtain ⟨_, t4⟩ := some_of (hf 4 _ rfl) (by omega)
    obtain ⟨_, t5⟩ := some_of (hf 5 _ rfl) (by omega)
    obtain ⟨_, t6⟩ := some_of (hf 6 _ rfl) (by omega)
    obtain ⟨_, t7⟩ := some_of (hf 7 _ rfl) (by omega)
    obtain ⟨_, t8⟩ := some_of (hf 8 _ rfl) (by omega)
    obtain ⟨_, t9⟩ := some_of (hf 9 _ rfl) (by omega)
    obtain ⟨_, t10⟩ := some_of (hf 10 _ rfl) (by omega)
    obtain ⟨_, t11⟩ := some_of (hf 11 _ rfl) (by omega)
    obtain ⟨_, t12⟩ := some_of (hf 12 _ rfl) (by omega)
    obtain ⟨_, t13⟩ := some_of (hf 13 _ rfl) (by omega)
    obtain ⟨x0, f0, _⟩ := u64_of t0
    obtain ⟨x1, f1⟩ := u8_of t1
    obtain ⟨x2, f2, p2⟩ := u64_of t2
    obtain ⟨x3, f3, _⟩ := u64_of t3
    obtain ⟨x4, f4⟩ := u32_of t4
    obtain ⟨y5, f5⟩ := bool_of t5
    obtain ⟨x6, f6, p6⟩ := u64_of t6
    obtain ⟨x7, f7, _⟩ := u64_of t7
    obtain ⟨x8, f8, _⟩ := u64_of t8
    obtain ⟨y9, f9⟩ := bool_of t9
    obtain ⟨x10, f10, _⟩ := u64_of t10
    obtain ⟨y11, f11⟩ := bool_of t11
    obtain ⟨y12, f12⟩ := bool_of t12
    obtain ⟨y13, f13⟩ := bool_of t13
    exact ⟨b, off, x0, x1, x2, x3, x4, x6, x7, x8, x10, y5, y9, y11, y12, y13, rfl, hlt, (hk 0 (by omega)).trans f0, (hk 1 (by omega)).trans f1, (hk 2 (by omega)).trans f2, (hk 3 (by omega)).trans f3, (hk 4 (by omega)).trans f4, (hk 5 (by omega)).trans f5, (hk 6 (by omega)).trans f6, (hk 7 (by omega)).trans f7, (hk 8 (by omega)).trans f8, (hk 9 (by omega)).trans f9, (hk 10 (by omega)).trans f10, (hk 11 (by omega)).trans f11, (hk 12 (by omega)).trans f12, (hk 13 (by omega)).trans f13, p2, p6⟩

theorem groups_of {v : Value} (h : DataW.trod enc Try.prog w base spare held fuel 23 [v] = some x) : ∃ a n c, v = .slice a n c ∧ n ≤ maxLen ∧ ZGroups w a n ∧ (a = none → n = 0) := by
  rcases Deep.open_slice1 Try.underlying23 cells50 h with ⟨hcs, _⟩ | ⟨a, len, cap, m, k, V, D, Pl, hcs, _, hl, hm, hmm, _, hx⟩
  · simp at hcs
    subst hcs
    exact ⟨none, 0, 0, rfl, Nat.zero_le _, .inl rfl, fun _ => rfl⟩
  · simp at hcs
    subst hcs
    have hml : len ≤ m := by rw [hmm]; split <;> omega
    refine ⟨some a, len, cap, rfl, by omega, ?_, by simp⟩
    by_cases h0 : len = 0
    · exact .inl h0
    · right
      obtain ⟨b, off, spot⟩ := a
      have hspot : spot = none := by simpa [Addr.add] using World.cell?_spot (hx 0 (by omega)).1
      subst hspot
      have hlt := World.block_lt_of_cell? w _ (hx 0 (by omega)).1
      refine ⟨b, off, rfl, by simpa [Addr.add] using hlt, fun j hj => ?_⟩
      obtain ⟨h1, h2⟩ := hx j (by omega)
      obtain ⟨p, e, hp⟩ := zptr_of h2
      rw [e, add_plain] at h1
      exact ⟨p, h1, hp⟩
theorem states_of {v : Value} (h : DataW.trod enc Try.prog w base spare held fuel 22 [v] = some x) : ∃ a n c, v = .slice a n c ∧ n ≤ maxLen ∧ ZStates w a n ∧ (a = none → n = 0) := by
  rcases Deep.open_slice1 Try.underlying22 cells55 h with ⟨hcs, _⟩ | ⟨a, len, cap, m, k, V, D, Pl, hcs, _, hl, hm, hmm, _, hx⟩
  · simp at hcs
    subst hcs
    exact ⟨none, 0, 0, rfl, Nat.zero_le _, .inl rfl, fun _ => rfl⟩
  · simp at hcs
    subst hcs
    have hml : len ≤ m := by rw [hmm]; split <;> omega
    refine ⟨some a, len, cap, rfl, by omega, ?_, by simp⟩
    by_cases h0 : len = 0
    · exact .inl h0
    · right
      obtain ⟨b, off, spot⟩ := a
      have hspot : spot = none := by simpa [Addr.add] using World.cell?_spot (hx 0 (by omega)).1
      subst hspot
      have hlt := World.block_lt_of_cell? w _ (hx 0 (by omega)).1
      refine ⟨b, off, rfl, by simpa [Addr.add] using hlt, fun j hj => ?_⟩
      obtain ⟨h1, h2⟩ := hx j (by omega)
      obtain ⟨p, e, hp⟩ := sptr_of h2
      rw [e, add_plain] at h1
      exact ⟨p, h1, hp⟩
end

end Go.Proofs.Qxb6600165a.Grp
