import Derived.Test.Qxb6001747aNumC
namespace Go.Proofs.Qxb6001747a.Num
open Go.RowKit

/-- What ZZskipNumber leaves. -/
def SkipZ (l : List UInt8) (w : World) (e : Ending) (w' : World) : Prop :=
  Below w.heap.size w w' ∧ match sk l with
    | none => e = .returned (.tuple #[.string ByteArray.empty, .bool false, .bool false])
    | some (r, d) => e = .returned (.tuple #[.string (B r), .bool d, .bool true])

theorem below_drewN' {B : Nat} {a w : World} (h : Below B a w) (n : Nat) : Below B a (w.drewN n) := ⟨h.os, h.tape, h.output, h.size, h.block⟩

set_option maxHeartbeats 1000000 in
theorem skipZ9 (l : List UInt8) (w : World) (hl : l.length ≤ 2000000) : Calls Try.prog 9 #[.string (B l)] w fun e w' => SkipZ l w e w' := by
  go_enter Try.func9, Try.ntmps9
  go_wp2_with fail
  refine (skip20 l w hl).mono ?_
  rintro e w1 ⟨hb, hm⟩
  cases hsk : sk l with
  | none =>
    rw [hsk] at hm
    obtain ⟨t, v, rfl⟩ := hm
    have HSK : Hid (sk l = none) := hsk
    clear hsk
    go_wp2_with fail
    go_quiet (fail)
    go_wp2
    go_ret3
    exact ⟨below_drewN' hb _, by rw [HSK.out]; rfl⟩
  | some x =>
    obtain ⟨r, d⟩ := x
    rw [hsk] at hm
    simp only at hm
    subst hm
    have HSK : Hid (sk l = some (r, d)) := hsk
    clear hsk
    go_wp2_with fail
    go_quiet (fail)
    go_wp2
    go_ret3
    exact ⟨below_drewN' hb _, by rw [HSK.out]; rfl⟩

theorem B_app (a b : List UInt8) : B a ++ B b = B (a ++ b) := by
  rw [B_of (B a ++ B b)]
  congr 1

/-- It returns a bool; and where that is true, p. -/
def Tells (e : Ending) (p : Prop) : Prop := ∃ r : Bool, e = .returned (.bool r) ∧ (r = true → p)
theorem Tells.no (p : Prop) : Tells (.returned (.bool false)) p := ⟨false, rfl, by simp⟩
theorem Tells.yes {p : Prop} (h : p) : Tells (.returned (.bool true)) p := ⟨true, rfl, fun _ => h⟩
def Short (n : Nat) : Prop := n ≤ 1048576

set_option maxHeartbeats 1000000 in
theorem bytes8 (l : List UInt8) (w : World) : Calls Try.prog 8 #[.string (B l)] w fun e w' => Tells e (Short l.length) ∧ w' = w := by
  have hl := B_size l
  have Hl : Hid ((B l).size = l.length) := hl
  clear hl
  by_cases h : (B l).size ≤ 1048576
  · go_enter Try.func8, Try.ntmps8
    go_wp2
    go_ret
    exact ⟨Tells.yes (by have := Hl.out; show l.length ≤ 1048576; omega), rfl⟩
  · go_enter Try.func8, Try.ntmps8
    go_wp2
    go_ret
    exact ⟨Tells.no _, rfl⟩

set_option maxHeartbeats 1000000 in
theorem bytes13 (b : Bool) (x y : Int) (l : List UInt8) (w : World) : Calls Try.prog 13 #[.bool b, .int .i64 x, .int .i64 y, .string (B l)] w fun e w' => Tells e (Short l.length) ∧ w' = w := by
  have hl := B_size l
  have Hl : Hid ((B l).size = l.length) := hl
  clear hl
  by_cases h : (B l).size ≤ 1048576
  · go_enter Try.func13, Try.ntmps13
    go_wp2
    go_ret
    exact ⟨Tells.yes (by have := Hl.out; show l.length ≤ 1048576; omega), rfl⟩
  · go_enter Try.func13, Try.ntmps13
    go_wp2
    go_ret
    exact ⟨Tells.no _, rfl⟩

set_option maxHeartbeats 1000000 in
theorem bytes12 (l m : List UInt8) (w : World) : Calls Try.prog 12 #[.string (B l), .string (B m)] w fun e w' => Tells e (Short (l.length + m.length)) ∧ w' = w := by
  have hl := B_size l
  have Hl : Hid ((B l).size = l.length) := hl
  have hm := B_size m
  have Hm : Hid ((B m).size = m.length) := hm
  clear hl hm
  by_cases h : (B l).size ≤ 1048576
  · by_cases h2 : (B m).size ≤ 1048576
    · by_cases h3 : (B l).size + (B m).size ≤ 1048576
      · go_enter Try.func12, Try.ntmps12
        go_wp2
        go_ret
        exact ⟨Tells.yes (by have := Hl.out; have := Hm.out; show l.length + m.length ≤ 1048576; omega), rfl⟩
      · go_enter Try.func12, Try.ntmps12
        go_wp2
        go_ret
        exact ⟨Tells.no _, rfl⟩
    · go_enter Try.func12, Try.ntmps12
      go_wp2
      go_ret
      exact ⟨Tells.no _, rfl⟩
  · go_enter Try.func12, Try.ntmps12
    go_wp2
    go_ret
    exact ⟨Tells.no _, rfl⟩

set_option maxHeartbeats 1000000 in
theorem suffix10 (p r : List UInt8) (w : World) (h : (p ++ r).length ≤ 1048576) : Calls Try.prog 10 #[.string (B (p ++ r)), .string (B r)] w fun e w' => e = .returned (.bool true) ∧ w' = w := by
  have hl := B_size (p ++ r)
  have hr := B_size r
  have hx : (B (p ++ r)).extract ((B (p ++ r)).size - (B r).size) (B (p ++ r)).size = B r := by
    rw [B_drop, B_size, B_size]
    congr 1
    simp
  generalize B (p ++ r) = s at *
  generalize B r = t at *
  simp at hl h
  have g1 : t.size ≤ s.size := by omega
  have g2 : s.size ≤ 1048576 := by omega
  clear hl hr
  go_enter Try.func10, Try.ntmps10
  go_wp2
  go_ret
  exact ⟨rfl, rfl⟩

end Go.Proofs.Qxb6001747a.Num
