import Derived.Test.Qxb6600165aRows
import Derived.WalkKit
import Derived.ProofKit
import Derived.OpenShut
import Derived.Below
import Derived.WalkLawsBesides
import Derived.WalkSpells
import Derived.Deep.QuietTactic
import Derived.BigQuiet
import Derived.Deep.MidRow
namespace Go.Proofs.Qxb6600165a.Grp
open Go.RowKit

/-- It returns a bool; and where that is false, p. -/
def Denies (e : Ending) (p : Prop) : Prop := ∃ r : Bool, e = .returned (.bool r) ∧ (r = false → p)
theorem Denies.yes (p : Prop) : Denies (.returned (.bool true)) p := ⟨true, rfl, by simp⟩
theorem Denies.no {p : Prop} (h : p) : Denies (.returned (.bool false)) p := ⟨false, rfl, fun _ => h⟩

/-- A slice of strings. -/
def Strs (w : World) (a : Option Addr) (n : Nat) : Prop := n = 0 ∨ ∃ b off, a = some ⟨b, off, none⟩ ∧ b < w.heap.size ∧ ∀ j, j < n → ∃ s : ByteArray, w.cell? ⟨b, off + j, none⟩ = some (.string s) ∧ s.size ≤ maxLen
/-- A slice of arrays of sixteen bytes. -/
def Dirs (w : World) (a : Option Addr) (n : Nat) : Prop := n = 0 ∨ ∃ b off, a = some ⟨b, off, none⟩ ∧ b < w.heap.size ∧ ∀ j, j < n * 16 → ∃ x : Int, w.cell? ⟨b, off + j, none⟩ = some (.int .u8 x)

/-- A group that came in. -/
structure ZGrp (w : World) (b o : Nat) (A1 A2 A3 : Option Addr) (n1 c1 n2 c2 n3 c3 : Nat) : Prop where
  lt : b < w.heap.size
  log : ∀ i, i < 16 → ∃ x : Int, w.cell? ⟨b, o + i, none⟩ = some (.int .u8 x)
  f1 : w.cell? ⟨b, o + 16, none⟩ = some (.slice A1 n1 c1)
  s1 : Strs w A1 n1
  f2 : w.cell? ⟨b, o + 17, none⟩ = some (.slice A2 n2 c2)
  s2 : Strs w A2 n2
  f3 : ∃ x : Int, w.cell? ⟨b, o + 18, none⟩ = some (.int .u64 x) ∧ 0 ≤ x
  f4 : w.cell? ⟨b, o + 19, none⟩ = some (.slice A3 n3 c3)
  s4 : Dirs w A3 n3
  f5 : ∃ x : Int, w.cell? ⟨b, o + 20, none⟩ = some (.int .u64 x) ∧ 0 ≤ x
  f6 : ∃ x : Int, w.cell? ⟨b, o + 21, none⟩ = some (.int .u64 x)
  f7 : ∃ x : Int, w.cell? ⟨b, o + 22, none⟩ = some (.int .u64 x)
  l1 : n1 ≤ maxLen
  l2 : n2 ≤ maxLen
  l3 : n3 ≤ maxLen
  e1 : A1 = none → n1 = 0
  e2 : A2 = none → n2 = 0
  e3 : A3 = none → n3 = 0

/-- A pointer to a group that came in, or nil. -/
def ZPtr (w : World) (p : Option Addr) : Prop := p = none ∨ ∃ b o A1 A2 A3 n1 c1 n2 c2 n3 c3, p = some ⟨b, o, none⟩ ∧ ZGrp w b o A1 A2 A3 n1 c1 n2 c2 n3 c3
/-- The groups that came in. -/
def ZGroups (w : World) (a : Option Addr) (n : Nat) : Prop := n = 0 ∨ ∃ b off, a = some ⟨b, off, none⟩ ∧ b < w.heap.size ∧ ∀ j, j < n → ∃ p, w.cell? ⟨b, off + j, none⟩ = some (.pointer p) ∧ ZPtr w p

set_option maxRecDepth 100000 in
set_option maxHeartbeats 8000000 in
theorem bytes7 (a1 a2 : Option Addr) (m c n d : Nat) (w : World) (hm : m ≤ maxLen) (hn : n ≤ maxLen) (hg : ZGroups w a2 n) :
    Calls Try.prog 7 #[.slice a1 m c, .slice a2 n d] w fun e w' => Denies e True ∧ w = w' := by
  unfold maxLen at hm hn
  by_cases h1 : m ≤ 1048576
  · by_cases h2 : n ≤ 1048576
    · by_cases h3 : m + n ≤ 1048576
      · go_enter Try.func7, Try.ntmps7
        go_wp2
        go_loop [5, 6] (fun z i => ∃ t k : Nat, t ≤ 1048576 ∧ k ≤ n ∧ z = .int .i64 t ∧ i = .int .i64 k) (fun _ i => n - (intOf i).toNat)
        case atStart => exact ⟨m + n, 0, h3, Nat.zero_le _, by go_num, rfl⟩
        case round =>
          obtain ⟨t, k, ht, hk, rfl, rfl⟩ := hrel
          by_cases hlt : k < n
          · rcases hg with h0 | ⟨b, off, rfl, hb, hc⟩
            · omega
            obtain ⟨p, hcell, hp⟩ := hc k hlt
            clear hc
            rcases hp with rfl | ⟨gb, go, A1, A2, A3, n1, c1, n2, c2, n3, c3, rfl, hG⟩
            · go_wp2
              go_round
              case rel => exact ⟨t, k + 1, ht, by omega, rfl, by go_num⟩
              case measure => simp [intOf]; omega
            · have f1 := hG.f1
              have f2 := hG.f2
              have f4 := hG.f4
              have l1 := hG.l1
              have l2 := hG.l2
              have l3 := hG.l3
              unfold maxLen at l1 l2 l3
              have HG : Hid (ZGrp w gb go A1 A2 A3 n1 c1 n2 c2 n3 c3) := hG
              clear hG
              by_cases hn1 : n1 ≤ 1048576
              · have hd0 : decide ((1048576 : Int) < (n1 : Int)) = false := by simp; omega
                by_cases ht1 : t + n1 ≤ 1048576
                · have hd1 : decide ((1048576 : Int) < (t : Int) + (n1 : Int)) = false := by simp; omega
                  go_wp2
                  go_loop [5, 7] (fun z i => ∃ t2 k2 : Nat, t2 ≤ 1048576 ∧ k2 ≤ n1 ∧ z = .int .i64 t2 ∧ i = .int .i64 k2) (fun _ i => n1 - (intOf i).toNat)
                  case atStart => exact ⟨t + n1, 0, by exact ht1, Nat.zero_le _, by go_num, rfl⟩
                  case round =>
                    obtain ⟨t2, k2, ht2, hk2, rfl, rfl⟩ := hrel
                    by_cases hlt2 : k2 < n1
                    · rcases HG.out.s1 with h0 | ⟨b2, off2, rfl, hb2, hc2⟩
                      · omega
                      obtain ⟨s, hcs, hsl⟩ := hc2 k2 hlt2
                      unfold maxLen at hsl
                      clear hc2
                      by_cases hs1 : s.size ≤ 1048576
                      · by_cases hs2 : t2 + s.size ≤ 1048576
                        · go_wp2
                          go_round
                          case rel => exact ⟨t2 + s.size, k2 + 1, hs2, by omega, by go_num, by go_num⟩
                          case measure => simp [intOf]; omega
                        · go_wp2
                          go_ret
                          exact ⟨Denies.no trivial, rfl⟩
                      · go_wp2
                        go_ret
                        exact ⟨Denies.no trivial, rfl⟩

                    · by_cases hn2 : n2 ≤ 1048576
                      · have hd2 : decide ((1048576 : Int) < (n2 : Int)) = false := by simp; omega
                        by_cases ht3 : t2 + n2 ≤ 1048576
                        · have hd3 : decide ((1048576 : Int) < (t2 : Int) + (n2 : Int)) = false := by simp; omega
                          have ht2 := ht3
                          go_wp2
                          go_loop [5, 8] (fun z i => ∃ t2 k2 : Nat, t2 ≤ 1048576 ∧ k2 ≤ n2 ∧ z = .int .i64 t2 ∧ i = .int .i64 k2) (fun _ i => n2 - (intOf i).toNat)
                          case atStart => exact ⟨t2 + n2, 0, by exact ht3, Nat.zero_le _, by go_num, rfl⟩
                          case round =>
                            obtain ⟨t2, k2, ht2, hk2, rfl, rfl⟩ := hrel
                            by_cases hlt2 : k2 < n2
                            · rcases HG.out.s2 with h0 | ⟨b2, off2, rfl, hb2, hc2⟩
                              · omega
                              obtain ⟨s, hcs, hsl⟩ := hc2 k2 hlt2
                              unfold maxLen at hsl
                              clear hc2
                              by_cases hs1 : s.size ≤ 1048576
                              · by_cases hs2 : t2 + s.size ≤ 1048576
                                · go_wp2
                                  go_round
                                  case rel => exact ⟨t2 + s.size, k2 + 1, hs2, by omega, by go_num, by go_num⟩
                                  case measure => simp [intOf]; omega
                                · go_wp2
                                  go_ret
                                  exact ⟨Denies.no trivial, rfl⟩
                              · go_wp2
                                go_ret
                                exact ⟨Denies.no trivial, rfl⟩

                            · by_cases hn3 : n3 ≤ 1048576
                              · by_cases ht5 : t2 + n3 ≤ 1048576
                                · go_wp2
                                  go_round
                                  case rel => exact ⟨t2 + n3, k + 1, ht5, by omega, by go_num, by go_num⟩
                                  case measure => simp [intOf]; omega
                                · go_wp2
                                  go_ret
                                  exact ⟨Denies.no trivial, rfl⟩
                              · go_wp2
                                go_ret
                                exact ⟨Denies.no trivial, rfl⟩
                        · go_wp2
                          go_ret
                          exact ⟨Denies.no trivial, rfl⟩
                      · go_wp2
                        go_ret
                        exact ⟨Denies.no trivial, rfl⟩
                · go_wp2
                  go_ret
                  exact ⟨Denies.no trivial, rfl⟩
              · go_wp2
                go_ret
                exact ⟨Denies.no trivial, rfl⟩
          · go_wp2
            go_ret
            exact ⟨Denies.yes _, rfl⟩
      · go_enter Try.func7, Try.ntmps7
        go_wp2
        go_ret
        exact ⟨Denies.no trivial, rfl⟩
    · go_enter Try.func7, Try.ntmps7
      go_wp2
      all_goals (go_ret; exact ⟨Denies.no trivial, rfl⟩)
  · go_enter Try.func7, Try.ntmps7
    go_wp2
    go_ret
    exact ⟨Denies.no trivial, rfl⟩

end Go.Proofs.Qxb6600165a.Grp
