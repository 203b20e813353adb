import Derived.Test.Qxb6600165aGrpG
namespace Go.Proofs.Qxb6600165a.Grp
open Go.RowKit

/-- How new a group is: its changes, and whether one is under way. -/
def key (c : Int) (t : Option Addr) : Int := 2 * c + (if t.isSome then 1 else 0)

set_option maxRecDepth 100000 in
set_option maxHeartbeats 4000000 in
theorem older22 (g h : Nat) (c1 c2 : Int) (t1 t2 : Option Addr) (n1 d1 n2 d2 : Nat) (w : World)
    (hc1 : w.cell? ⟨g, 18, none⟩ = some (.int .u64 c1)) (hc2 : w.cell? ⟨h, 18, none⟩ = some (.int .u64 c2))
    (ht1 : w.cell? ⟨g, 17, none⟩ = some (.slice t1 n1 d1)) (ht2 : w.cell? ⟨h, 17, none⟩ = some (.slice t2 n2 d2)) :
    Calls Try.prog 22 #[.pointer (some ⟨g, 0, none⟩), .pointer (some ⟨h, 0, none⟩)] w fun e w' => e = .returned (.bool (decide (key c1 t1 < key c2 t2))) ∧ Draws w w' := by
  have q36 : ∀ (w : World) (a : Option Addr) (n c n' c' : Nat), (binOp .eql 36 (.slice a n c) (.slice none n' c')).run Try.prog w = .ok (.bool a.isNone) w := fun w a n c n' c' => Lib.run_eql_slice_nil w _ _ a n c n' c' Try.underlying36
  by_cases h1 : c1 < c2
  · have hk : decide (key c1 t1 < key c2 t2) = true := by
      unfold key
      simp
      split <;> split <;> omega
    rw [hk]
    go_enter Try.func22, Try.ntmps22
    go_wp2
    go_quiet (fail)
    go_wp2
    go_ret
    exact ⟨rfl, _, rfl⟩
  · by_cases h2 : c1 = c2
    · subst h2
      cases t1 with
      | none =>
        cases t2 with
        | none =>
          have hk : decide (key c1 none < key c1 none) = false := by simp
          rw [hk]
          go_enter Try.func22, Try.ntmps22
          go_wp2
          go_quiet (fail)
          go_wp2
          go_ret
          exact ⟨rfl, _, rfl⟩
        | some y =>
          have hk : decide (key c1 none < key c1 (some y)) = true := by simp [key]; omega
          rw [hk]
          go_enter Try.func22, Try.ntmps22
          go_wp2
          go_quiet (fail)
          go_wp2
          go_ret
          exact ⟨rfl, _, rfl⟩
      | some x =>
        have hk : decide (key c1 (some x) < key c1 t2) = false := by
          unfold key
          simp
          split <;> omega
        rw [hk]
        go_enter Try.func22, Try.ntmps22
        go_wp2
        go_quiet (fail)
        go_wp2
        go_ret
        exact ⟨rfl, _, rfl⟩
    · have h3 : (c1 == c2) = false := by simpa using h2
      have hd : decide (c1 < c2) = false := by simp; omega
      have hk : decide (key c1 t1 < key c2 t2) = false := by
        unfold key
        simp
        split <;> split <;> omega
      rw [hk]
      go_enter Try.func22, Try.ntmps22
      go_wp2
      go_quiet (fail)
      go_wp2
      go_ret
      exact ⟨rfl, _, rfl⟩

theorem older22' (g h : Nat) (X Y : Nat → Int) (c1 c2 m1 m2 : Int) (t1 t2 : Option Addr) (n1 d1 n2 d2 : Nat) (w w0 : World) (hw : Draws w0 w) (hg : IsGrp w0 g X c1 m1 t1 n1 d1) (hh : IsGrp w0 h Y c2 m2 t2 n2 d2) :
    Calls Try.prog 22 #[.pointer (some ⟨g, 0, none⟩), .pointer (some ⟨h, 0, none⟩)] w fun e w' => e = .returned (.bool (decide (key c1 t1 < key c2 t2))) ∧ Draws w0 w' := by
  obtain ⟨q, rfl⟩ := hw
  refine (older22 g h c1 c2 t1 t2 n1 d1 n2 d2 _ (by simpa using hg.chg) (by simpa using hh.chg) (by simpa using hg.to) (by simpa using hh.to)).mono ?_
  rintro e w' ⟨h1, q', rfl⟩
  exact ⟨h1, q + q', by simp⟩

set_option maxRecDepth 100000 in
set_option maxHeartbeats 4000000 in
/-- zzLatest. -/
theorem latest13 (g : Nat) (X : Nat → Int) (c tm : Int) (t : Option Addr) (n d : Nat) (most : Int) (uw : Bool) (w : World) (hg : IsGrp w g X c tm t n d) :
    Calls Try.prog 13 #[.pointer (some ⟨g, 0, none⟩), .int .u64 most, .bool uw] w fun e w' => e = .returned (.bool (!Zero X && decide (key c t = 2 * most + (if uw then 1 else 0)))) ∧ w = w' := by
  have q36 : ∀ (w : World) (a : Option Addr) (n c n' c' : Nat), (binOp .neq 36 (.slice a n c) (.slice none n' c')).run Try.prog w = .ok (.bool a.isSome) w := fun w a n c n' c' => by
    rw [run_neq_slice_nil_any w 36 _ a n c n' c' Try.underlying36]
    cases a <;> rfl
  have hlog := hg.log
  have hc := hg.chg
  have ht := hg.to
  clear hg
  by_cases hz : Zero X = true
  · have hr : (!Zero X && decide (key c t = 2 * most + (if uw then 1 else 0))) = false := by simp [hz]
    rw [hr]
    go_enter Try.func13, Try.ntmps13
    go_wp2_with fail
    refine (rec12 g X _ hlog).mono ?_
    rintro e w' ⟨rfl, rfl⟩
    rw [hz]
    go_wp2
    go_ret
    exact ⟨rfl, rfl⟩
  · have hz : Zero X = false := by simpa using hz
    by_cases h2 : c = most
    · subst h2
      have hr : (!Zero X && decide (key c t = 2 * c + (if uw then 1 else 0))) = (t.isSome == uw) := by
        unfold key
        rw [hz]
        cases t <;> cases uw <;> simp <;> omega
      rw [hr]
      go_enter Try.func13, Try.ntmps13
      go_wp2_with fail
      refine (rec12 g X _ hlog).mono ?_
      rintro e w' ⟨rfl, rfl⟩
      rw [hz]
      go_wp2
      go_ret
      exact ⟨rfl, rfl⟩
    · have hb : (c == most) = false := by simpa using h2
      have hr : (!Zero X && decide (key c t = 2 * most + (if uw then 1 else 0))) = false := by
        unfold key
        simp
        intro _
        split <;> split <;> omega
      rw [hr]
      go_enter Try.func13, Try.ntmps13
      go_wp2_with fail
      refine (rec12 g X _ hlog).mono ?_
      rintro e w' ⟨rfl, rfl⟩
      rw [hz]
      go_wp2
      go_ret
      exact ⟨rfl, rfl⟩

theorem latest13n (most : Int) (uw : Bool) (w : World) :
    Calls Try.prog 13 #[.pointer none, .int .u64 most, .bool uw] w fun e w' => e = .returned (.bool false) ∧ w = w' := by
  go_enter Try.func13, Try.ntmps13
  go_wp2_with fail
  refine (rec12n _).mono ?_
  rintro e w' ⟨rfl, rfl⟩
  go_wp2
  go_ret
  exact ⟨rfl, rfl⟩

end Go.Proofs.Qxb6600165a.Grp
