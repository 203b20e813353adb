import Derived.Test.Qxb6600165aGrpA
namespace Go.Proofs.Qxb6600165a.Grp
open Go.RowKit

def Total (e : Ending) : Prop := ∃ r : Nat, e = .returned (.int .i64 r) ∧ r ≤ 3000000

set_option maxHeartbeats 1000000 in
theorem bytes19 (t : Nat) (a : Option Addr) (n c : Nat) (w : World) (ht : t ≤ 1048576) (hn : n ≤ maxLen) (hs : Strs w a n) :
    Calls Try.prog 19 #[.int .i64 t, .slice a n c] w fun e w' => Total e ∧ w = w' := by
  unfold maxLen at hn
  go_enter Try.func19, Try.ntmps19
  go_wp2
  go_loop [0, 5] (fun z i => ∃ t2 k : Nat, t2 ≤ 1048576 ∧ k ≤ n ∧ z = .int .i64 t2 ∧ i = .int .i64 k) (fun _ i => n - (intOf i).toNat)
  case atStart => exact ⟨t, 0, ht, Nat.zero_le _, rfl, rfl⟩
  case round =>
    obtain ⟨t2, k, ht2, hk, rfl, rfl⟩ := hrel
    by_cases hlt : k < n
    · rcases hs with h0 | ⟨b, off, rfl, hb, hc⟩
      · omega
      obtain ⟨s, hcs, hsl⟩ := hc k hlt
      unfold maxLen at hsl
      clear hc
      by_cases hs1 : s.size ≤ 1048576
      · by_cases hs2 : t2 + s.size ≤ 1048576
        · go_wp2
          go_round
          case rel => exact ⟨t2 + s.size, k + 1, hs2, by omega, by go_num, by go_num⟩
          case measure => simp [intOf]; omega
        · go_wp2
          go_ret
          exact ⟨⟨t2 + s.size, by simp, by omega⟩, rfl⟩
      · go_wp2
        go_ret
        exact ⟨⟨1048577, rfl, by omega⟩, rfl⟩
    · go_wp2
      go_ret
      exact ⟨⟨t2, rfl, by omega⟩, rfl⟩

theorem bytes19' (T : Int) (a : Option Addr) (n c : Nat) (w : World) (h0 : 0 ≤ T) (h1 : T ≤ 1048576) (hn : n ≤ maxLen) (hs : Strs w a n) :
    Calls Try.prog 19 #[.int .i64 T, .slice a n c] w fun e w' => Total e ∧ w = w' := by
  obtain ⟨t, rfl⟩ := Int.eq_ofNat_of_zero_le h0
  exact bytes19 t a n c w (by omega) hn hs

/-- A pointer to a group of short lists, or nil. -/
def SPtr (w : World) (p : Option Addr) : Prop := p = none ∨ ∃ b o A1 A2 A3 n1 c1 n2 c2 n3 c3, p = some ⟨b, o, none⟩ ∧ ZGrp w b o A1 A2 A3 n1 c1 n2 c2 n3 c3 ∧ n1 ≤ 1048576 ∧ n2 ≤ 1048576 ∧ n3 ≤ 1048576
def SGroups (w : World) (a : Option Addr) (n : Nat) : Prop := n = 0 ∨ ∃ b off, a = some ⟨b, off, none⟩ ∧ b < w.heap.size ∧ ∀ j, j < n → ∃ p, w.cell? ⟨b, off + j, none⟩ = some (.pointer p) ∧ SPtr w p
/-- Of the first k. -/
def SUpTo (w : World) (a : Option Addr) (k : Nat) : Prop := k = 0 ∨ ∃ b off, a = some ⟨b, off, none⟩ ∧ b < w.heap.size ∧ ∀ j, j < k → ∃ p, w.cell? ⟨b, off + j, none⟩ = some (.pointer p) ∧ SPtr w p

theorem SUpTo.step {w : World} {b off k : Nat} {p : Option Addr} (h : SUpTo w (some ⟨b, off, none⟩) k) (hb : b < w.heap.size) (hc : w.cell? ⟨b, off + k, none⟩ = some (.pointer p)) (hp : SPtr w p) : SUpTo w (some ⟨b, off, none⟩) (k + 1) := by
  refine .inr ⟨b, off, rfl, hb, fun j hj => ?_⟩
  by_cases hjk : j = k
  · subst hjk
    exact ⟨p, hc, hp⟩
  · rcases h with h0 | ⟨b', off', e, _, h⟩
    · omega
    · cases e
      exact h j (by omega)

def Draws (w w' : World) : Prop := ∃ n, w' = w.drewN n

set_option maxRecDepth 100000 in
set_option maxHeartbeats 8000000 in
theorem big8 (st : Nat) (a : Option Addr) (n c : Nat) (w : World) (hst : st ≤ 600000) (hn : n ≤ 65536) (hg : ZGroups w a n) :
    Calls Try.prog 8 #[.int .i64 st, .slice a n c] w fun e w' => Denies e (SGroups w a n) ∧ Draws w w' := by
  by_cases h0 : st + 8 * n ≤ 1048576
  · go_enter Try.func8, Try.ntmps8
    go_wp2
    go_loopw [5, 6] (fun z i wr => ∃ t k q : Nat, t ≤ 1048576 ∧ k ≤ n ∧ z = .int .i64 t ∧ i = .int .i64 k ∧ SUpTo w a k ∧ wr = w.drewN q) (fun _ i _ => n - (intOf i).toNat)
    case atStart => exact ⟨st + 8 * n, 0, 0, h0, Nat.zero_le _, by go_num, rfl, .inl rfl, rfl⟩
    case round =>
      obtain ⟨t, k, q, ht, hk, rfl, rfl, hup, rfl⟩ := hrel
      by_cases hlt : k < n
      · rcases hg with h0 | ⟨b, off, rfl, hb, hc⟩
        · omega
        obtain ⟨p, hcell, hp⟩ := hc k hlt
        clear hc
        rcases hp with rfl | ⟨gb, go, A1, A2, A3, n1, c1, n2, c2, n3, c3, rfl, hG⟩
        · have hup2 := hup.step hb hcell (.inl rfl)
          go_wp2
          go_roundw
          case rel => exact ⟨t, k + 1, q, ht, by omega, rfl, by go_num, hup2, rfl⟩
          case measure => simp [intOf]; omega
        · have f1 := hG.f1
          have f2 := hG.f2
          have f4 := hG.f4
          have l1 := hG.l1
          have l2 := hG.l2
          have l3 := hG.l3
          have s1 := hG.s1
          have s2 := hG.s2
          have L1 := hG.l1
          have L2 := hG.l2
          unfold maxLen at l1 l2 l3
          have HG : Hid (ZGrp w gb go A1 A2 A3 n1 c1 n2 c2 n3 c3) := hG
          clear hG
          by_cases hn1 : n1 ≤ 1048576
          · by_cases hn2 : n2 ≤ 1048576
            · by_cases hn3 : n3 ≤ 1048576
              · have hup2 := hup.step hb hcell (.inr ⟨gb, go, A1, A2, A3, n1, c1, n2, c2, n3, c3, rfl, HG.out, hn1, hn2, hn3⟩)
                by_cases ht2 : (t : Int) + (16 * (n1 : Int) + 16 * (n2 : Int) + 16 * (n3 : Int)) ≤ 1048576
                · go_wp2
                  go_quiet (fail)
                  go_wp2_with fail
                  refine (bytes19' _ A1 n1 c1 _ (by omega) ht2 L1 (by exact s1)).mono ?_
                  rintro e wz ⟨⟨r1, rfl, hr1⟩, rfl⟩
                  by_cases hr1' : r1 ≤ 1048576
                  · go_wp2_with fail
                    refine (bytes19' _ A2 n2 c2 _ (by omega) (by omega) L2 (by exact s2)).mono ?_
                    rintro e wz ⟨⟨r2, rfl, hr2⟩, rfl⟩
                    by_cases hr2' : r2 ≤ 1048576
                    · go_wp2
                      go_roundw
                      case rel => exact ⟨r2, k + 1, q + nq, hr2', by omega, rfl, by go_num, hup2, rfl⟩
                      case measure => simp [intOf]; omega
                    · go_wp2
                      go_ret
                      exact ⟨Denies.yes _, q + nq, rfl⟩
                  · go_wp2
                    go_ret
                    exact ⟨Denies.yes _, q + nq, rfl⟩
                · go_wp2
                  go_quiet (fail)
                  go_wp2
                  go_ret
                  exact ⟨Denies.yes _, q + nq, rfl⟩
              · go_wp2
                go_ret
                exact ⟨Denies.yes _, q, rfl⟩
            · go_wp2
              go_ret
              exact ⟨Denies.yes _, q, rfl⟩
          · go_wp2
            go_ret
            exact ⟨Denies.yes _, q, rfl⟩
      · have hkn : k = n := by omega
        subst hkn
        go_wp2
        go_ret
        exact ⟨Denies.no hup, q, rfl⟩
  · go_enter Try.func8, Try.ntmps8
    go_wp2
    go_ret
    exact ⟨Denies.yes _, 0, rfl⟩

end Go.Proofs.Qxb6600165a.Grp
