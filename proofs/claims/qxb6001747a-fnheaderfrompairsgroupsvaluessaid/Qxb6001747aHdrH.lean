import Derived.Test.Qxb6001747aHdrG
namespace Go.Proofs.Qxb6001747a.Hdr
open Go.RowKit Go.Maps

/-- It returns true; the world has only drawn. -/
def Same (w : World) (e : Ending) (w' : World) : Prop := e = .returned (.bool true) ∧ ∃ n, w' = w.drewN n

theorem row_form {w : World} {base : Nat} {v : Value} {xs : List ByteArray} (h : w.ownsRow base 9 1 v xs.length (xs.map Value.string)) :
    ∃ a cap, v = .slice a xs.length cap ∧ (xs = [] ∨ ∃ g, a = some ⟨g, 0, none⟩ ∧ ∀ j, j < xs.length → w.cell? ⟨g, j, none⟩ = some (.string (xs.getD j ByteArray.empty))) := by
  have hc := h
  rcases h.2 with ⟨rfl, h0⟩ | ⟨g, cap, cur, rfl, _⟩
  · exact ⟨none, 0, by rw [h0], .inl (List.length_eq_zero_iff.1 h0)⟩
  · refine ⟨_, cap, rfl, .inr ⟨g, rfl, fun j hj => ?_⟩⟩
    rw [hc.cellAt j (by omega)]
    simp [List.getElem?_eq_getElem hj]

set_option maxHeartbeats 1000000 in
theorem same19 (v1 v2 : Value) (xs : List ByteArray) (w : World) (b1 b2 : Nat) (hl : xs.length ≤ 100000) (h1 : w.ownsRow b1 9 1 v1 xs.length (xs.map Value.string)) (h2 : w.ownsRow b2 9 1 v2 xs.length (xs.map Value.string)) :
    Calls Try.prog 19 #[v1, v2] w fun e w' => Same w e w' := by
  obtain ⟨a1, c1, rfl, r1⟩ := row_form h1
  obtain ⟨a2, c2, rfl, r2⟩ := row_form h2
  clear h1 h2
  have hne : (((xs.length : Nat) : Int) != (xs.length : Int)) = false := by simp
  generalize hn : xs.length = n at *
  go_enter Try.func19, Try.ntmps19
  go_wp2
  go_loopw [5] (fun i wr => ∃ k : Nat, k ≤ n ∧ i = .int .i64 k ∧ ∃ m, wr = w.drewN m) (fun i _ => n - (intOf i).toNat)
  case atStart => exact ⟨0, Nat.zero_le _, rfl, 0, rfl⟩
  case round =>
    obtain ⟨k, hk, rfl, m, rfl⟩ := hrel
    by_cases hlt : k < n
    · rcases r1 with r1 | ⟨g1, rfl, r1⟩
      · subst r1; simp at hn; omega
      rcases r2 with r2 | ⟨g2, rfl, r2⟩
      · subst r2; simp at hn; omega
      have k1 := r1 k hlt
      have k2 := r2 k hlt
      clear r1 r2 hn
      generalize xs.getD k ByteArray.empty = s at *
      have hi0 : (0 : Int) ≤ (k : Int) := by omega
      have hi1 : (k : Int) < (n : Int) := by omega
      go_wp2
      go_quiet (fail)
      go_wp2
      go_roundw
      case rel => exact ⟨k + 1, by omega, by go_num, m + nq, rfl⟩
      case measure => simp [intOf]; omega
    · go_wp2
      go_ret
      exact ⟨rfl, m, rfl⟩

end Go.Proofs.Qxb6001747a.Hdr
