import Derived.Test.Qxb6001747aHdrF
import Derived.ShutString
import Derived.ChangeOld
namespace Go.Proofs.Qxb6001747a.Hdr
open Go.ChangeShapes Go.WideShapes Go.ChangeAt Go.RowKit

theorem own : ownKnob Try.prog.godebug = none := by kernel_rfl
theorem laidOut : laidOutB Try.prog = true := by kernel_rfl

/-- A slice of bytes as the reader meets it. -/
theorem bytes_of {H : Type} {enc : TypeId × Value → H} {w : World} {base : Nat} {spare : Nat → Bool} {held : Bool} {fuel : Nat} {v : Value} {x : DataW H × List MemPlace}
    (h : DataW.trod enc Try.prog w base spare held fuel 28 [v] = some x) : ∃ a n c zs, v = .slice a n c ∧ n ≤ maxLen ∧ Bytes w a n zs := by
  rcases Deep.open_slice1 Try.underlying28 (by kernel_rfl) h with ⟨hcs, _⟩ | ⟨a, len, cap, m, n, V, D, Pl, hcs, _, hl, hm, hmm, _, hx⟩
  · simp at hcs
    subst hcs
    exact ⟨none, 0, 0, [], rfl, Nat.zero_le _, rfl, by simp, .inl rfl⟩
  · simp at hcs
    subst hcs
    have hml : len ≤ m := by rw [hmm]; split <;> omega
    have hz : ∀ j, j < len → ∃ z : Int, w.cell? (a.add j) = some (.int .u8 z) ∧ 0 ≤ z ∧ z ≤ 255 := fun j hj => by
      obtain ⟨h1, h2⟩ := hx j (by omega)
      obtain ⟨z, e1, _, hw⟩ := DataW.trod_int Try.underlying5 h2
      simp at e1
      rw [e1] at h1
      exact ⟨z, h1, bounds_u8 hw⟩
    obtain ⟨f, hf⟩ := Deep.choose_lt hz
    refine ⟨some a, len, cap, (List.range len).map f, rfl, by omega, by simp, fun z hz => ?_, ?_⟩
    · obtain ⟨j, hj, rfl⟩ := List.mem_map.1 hz
      exact (hf j (by simpa using hj)).2
    · by_cases h0 : len = 0
      · exact .inl h0
      · right
        obtain ⟨b, off, spot⟩ := a
        have hspot : spot = none := by simpa [Addr.add] using World.cell?_spot (hf 0 (by omega)).1
        subst hspot
        have hlt := World.block_lt_of_cell? w _ (hf 0 (by omega)).1
        refine ⟨b, off, rfl, by simpa [Addr.add] using hlt, fun j hj => ?_⟩
        rw [← add_plain, (hf j hj).1]
        simp [List.getD, hj]

/-- A slice of slices of bytes as the reader meets it. -/
theorem pairs_of {H : Type} {enc : TypeId × Value → H} {w : World} {base : Nat} {spare : Nat → Bool} {held : Bool} {fuel : Nat} {v : Value} {x : DataW H × List MemPlace}
    (h : DataW.trod enc Try.prog w base spare held fuel 29 [v] = some x) :
    ∃ a n c A L C Z, v = .slice a n c ∧ n ≤ maxLen ∧ (∀ j, j < n → L j ≤ maxLen) ∧ Pairs w a n A L C Z ∧ (a = none → n = 0) := by
  rcases Deep.open_slice1 Try.underlying29 (by kernel_rfl) h with ⟨hcs, _⟩ | ⟨a, len, cap, m, n, V, D, Pl, hcs, _, hl, hm, hmm, _, hx⟩
  · simp at hcs
    subst hcs
    exact ⟨none, 0, 0, fun _ => none, fun _ => 0, fun _ => 0, fun _ => [], rfl, Nat.zero_le _, by simp, .inl rfl, fun _ => rfl⟩
  · simp at hcs
    subst hcs
    have hml : len ≤ m := by rw [hmm]; split <;> omega
    have hz : ∀ j, j < len → ∃ y : Option Addr × Nat × Nat × List Int, w.cell? (a.add j) = some (.slice y.1 y.2.1 y.2.2.1) ∧ y.2.1 ≤ maxLen ∧ Bytes w y.1 y.2.1 y.2.2.2 := fun j hj => by
      obtain ⟨h1, h2⟩ := hx j (by omega)
      obtain ⟨a', n', c', zs, e1, h3, h4⟩ := bytes_of h2
      exact ⟨(a', n', c', zs), by rw [h1, e1], h3, h4⟩
    obtain ⟨f, hf⟩ := Deep.choose_lt hz
    refine ⟨some a, len, cap, fun j => (f j).1, fun j => (f j).2.1, fun j => (f j).2.2.1, fun j => (f j).2.2.2, rfl, by omega, fun j hj => (hf j hj).2.1, ?_, by simp⟩
    by_cases h0 : len = 0
    · exact .inl h0
    · right
      obtain ⟨b, off, spot⟩ := a
      have hspot : spot = none := by simpa [Addr.add] using World.cell?_spot (hf 0 (by omega)).1
      subst hspot
      have hlt := World.block_lt_of_cell? w _ (hf 0 (by omega)).1
      refine ⟨b, off, rfl, by simpa [Addr.add] using hlt, fun j hj => ⟨?_, (hf j hj).2.2⟩⟩
      rw [← add_plain]
      exact (hf j hj).1

end Go.Proofs.Qxb6001747a.Hdr
