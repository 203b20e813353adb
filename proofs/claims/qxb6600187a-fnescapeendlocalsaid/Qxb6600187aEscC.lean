import Derived.Test.Qxb6600187aEscB
namespace Go.Proofs.Qxb6600187a.Esc
open Go.RowKit

theorem ret_int {k : IntKind} {a b : Int} (h : a = b) : Ending.returned (.int k a) = .returned (.int k b) := by rw [h]

set_option maxHeartbeats 4000000 in
theorem esc16 (r b off n c i : Nat) (zs : List Int) (w : World) (hn : n ≤ 2000000) (hi : i < n) (hr : Row w b off n zs) (hrd : w.cell? ⟨r, 0, none⟩ = some (.slice (some ⟨b, off, none⟩) n c)) :
    Calls Try.prog 16 #[.pointer (some ⟨r, 0, none⟩), .int .i64 i] w fun e w' => e = .returned (.int .i64 (ee zs i)) ∧ w = w' := by
  obtain ⟨zl, zb, hc⟩ := hr
  have HL : Hid (zs.length = n) := zl
  clear zl zb
  by_cases h1 : i + 1 = n
  · have HE : Hid (ee zs i = -1) := by show ee zs i = -1; unfold ee; rw [if_pos (by have := HL.out; omega)]
    have h1' : ((i : Int) + 1 == (n : Int)) = true := by simp; omega
    clear h1 hc
    go_enter Try.func16, Try.ntmps16
    go_wp2
    go_ret
    exact ⟨ret_int HE.out.symm, rfl⟩
  · have h1' : ((i : Int) + 1 == (n : Int)) = false := by simp; omega
    have hlt : i + 1 < n := by omega
    have hx0 : (0 : Int) ≤ (i : Int) + 1 := by omega
    have hx1 : (i : Int) + 1 < (n : Int) := by omega
    have hn1 : i + 1 ≠ zs.length := by have := HL.out; omega
    have HN1 : Hid (i + 1 ≠ zs.length) := hn1
    have hcell := hc (i + 1) hlt
    have HT : Hid (one (zs.getD (i + 1) 0) = true → ee zs i = (i : Int) + 2) := fun h => ee_two hn1 h
    have HU : Hid (one (zs.getD (i + 1) 0) = false → ee zs i = if zs.getD (i + 1) 0 = 117 ∧ i + 6 ≤ n ∧ four zs i = true then (i : Int) + 6 else -1) := fun h => by
      unfold ee
      rw [if_neg hn1, h, HL.out]
      simp
    clear hn1 h1
    generalize zs.getD (i + 1) 0 = d at *
    cases hone : one d
    · have HE : Hid (ee zs i = if d = 117 ∧ i + 6 ≤ n ∧ four zs i = true then (i : Int) + 6 else -1) := HU.out hone
      clear HT HU
      simp [one] at hone
      obtain ⟨⟨⟨⟨⟨⟨⟨k1, k2⟩, k3⟩, k4⟩, k5⟩, k6⟩, k7⟩, k8⟩ := hone
      have j1 : (d == 34) = false := by simpa using k1
      have j2 : (d == 92) = false := by simpa using k2
      have j3 : (d == 47) = false := by simpa using k3
      have j4 : (d == 98) = false := by simpa using k4
      have j5 : (d == 102) = false := by simpa using k5
      have j6 : (d == 110) = false := by simpa using k6
      have j7 : (d == 114) = false := by simpa using k7
      have j8 : (d == 116) = false := by simpa using k8
      clear k1 k2 k3 k4 k5 k6 k7 k8
      by_cases hu : d = 117
      · subst hu
        by_cases h6 : i + 6 ≤ n
        · have e2 := hc (i + 2) (by omega)
          have e3 := hc (i + 3) (by omega)
          have e4 := hc (i + 4) (by omega)
          have e5 := hc (i + 5) (by omega)
          have HF : Hid (four zs i = (hx (zs.getD (i + 2) 0) && hx (zs.getD (i + 3) 0) && hx (zs.getD (i + 4) 0) && hx (zs.getD (i + 5) 0))) := rfl
          clear hc
          generalize zs.getD (i + 2) 0 = x2 at *
          generalize zs.getD (i + 3) 0 = x3 at *
          generalize zs.getD (i + 4) 0 = x4 at *
          generalize zs.getD (i + 5) 0 = x5 at *
          have HE2 : Hid (ee zs i = if (hx x2 && hx x3 && hx x4 && hx x5) = true then (i : Int) + 6 else -1) := by
            show ee zs i = _
            rw [HE.out, HF.out]
            simp only [true_and, h6]
          clear HE HF
          go_enter Try.func16, Try.ntmps16
          go_wp2_with (go_at_call 17; refine (hex17 _ _).mono ?_; rintro e wz ⟨rfl, rfl⟩)
          · have hq : (hx x2 && hx x3 && hx x4 && hx x5) = true := by simp [*]
            go_ret
            exact ⟨ret_int (by rw [HE2.out, if_pos hq]), rfl⟩
          · have hq : ¬ (hx x2 && hx x3 && hx x4 && hx x5) = true := by simp [*]
            go_ret
            exact ⟨ret_int (by rw [HE2.out, if_neg hq]), rfl⟩
          · have hq : ¬ (hx x2 && hx x3 && hx x4 && hx x5) = true := by simp [*]
            go_ret
            exact ⟨ret_int (by rw [HE2.out, if_neg hq]), rfl⟩
          · have hq : ¬ (hx x2 && hx x3 && hx x4 && hx x5) = true := by simp [*]
            go_ret
            exact ⟨ret_int (by rw [HE2.out, if_neg hq]), rfl⟩
          · have hq : ¬ (hx x2 && hx x3 && hx x4 && hx x5) = true := by simp [*]
            go_ret
            exact ⟨ret_int (by rw [HE2.out, if_neg hq]), rfl⟩
        · have HE2 : Hid (ee zs i = -1) := by show ee zs i = -1; rw [HE.out, if_neg (by omega)]
          clear HE hc
          go_enter Try.func16, Try.ntmps16
          go_wp2
          go_ret
          exact ⟨ret_int HE2.out.symm, rfl⟩
      · have hu' : (d == 117) = false := by simpa using hu
        have HE2 : Hid (ee zs i = -1) := by show ee zs i = -1; rw [HE.out, if_neg (by omega)]
        clear HE hc hu
        go_enter Try.func16, Try.ntmps16
        go_wp2
        go_ret
        exact ⟨ret_int HE2.out.symm, rfl⟩
    · have HE : Hid (ee zs i = (i : Int) + 2) := HT.out hone
      clear HT HU hc
      simp [one] at hone
      rcases hone with ((((((h | h) | h) | h) | h) | h) | h) | h
      all_goals
        subst h
        go_enter Try.func16, Try.ntmps16
        go_wp2
        go_ret
        exact ⟨ret_int HE.out.symm, rfl⟩

/-- What ZZEscapeEnd leaves. -/
def Esc (zs : List Int) (i : Nat) (w : World) (e : Ending) (w' : World) : Prop := e = .returned (.int .i64 (ee zs i)) ∧ Below w.heap.size w w'

set_option maxHeartbeats 1000000 in
theorem esc14 (b off n c i : Nat) (zs : List Int) (w : World) (hn : n ≤ 2000000) (hi : i < n) (hr : Row w b off n zs) (hb : b < w.heap.size) :
    Calls Try.prog 14 #[.slice (some ⟨b, off, none⟩) n c, .int .i64 i] w fun e w' => Esc zs i w e w' := by
  go_enter Try.func14, Try.ntmps14
  go_wp2_with fail
  refine (esc16 w.heap.size b off n c i zs _ hn hi (hr.below ((Below.refl _ _).alloc (Nat.le_refl _) _) hb) (by simp)).mono ?_
  rintro e wz ⟨rfl, rfl⟩
  go_wp2
  go_ret
  exact ⟨rfl, (Below.refl _ _).alloc (Nat.le_refl _) _⟩

end Go.Proofs.Qxb6600187a.Esc
