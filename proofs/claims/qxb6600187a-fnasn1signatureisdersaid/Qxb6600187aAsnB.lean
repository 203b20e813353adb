import Derived.Test.Qxb6600187aEscB
import Derived.Test.Qxb6600187aAsnA
namespace Go.Proofs.Qxb6600187a.Asn
open Go.RowKit Go.Proofs.Qxb6600187a.Esc

theorem and128 (d : Int) (h0 : 0 ≤ d) (h1 : d ≤ 255) : bits .and .u8 d 128 = if 128 ≤ d then 128 else 0 := by
  obtain ⟨n, rfl⟩ := Int.eq_ofNat_of_zero_le h0
  have hn : n < 256 := by omega
  have key : ∀ m : Fin 256, bits .and .u8 ((m.val : Nat) : Int) 128 = if 128 ≤ ((m.val : Nat) : Int) then 128 else 0 := by decide +kernel
  exact key ⟨n, hn⟩

theorem ret_iib {a b c d : Int} (h1 : a = b) (h2 : c = d) : Ending.returned (.tuple #[.int .i64 a, .int .i64 c, .bool true]) = .returned (.tuple #[.int .i64 b, .int .i64 d, .bool true]) := by rw [h1, h2]

set_option maxRecDepth 100000 in
set_option maxHeartbeats 4000000 in
theorem der9 (g n c i L : Nat) (zs : List Int) (w : World) (hn : n ≤ 1000) (hr : Row w g 0 n zs) (hi : i + 2 + L ≤ n) (hL1 : 1 ≤ L) (hL2 : L < 128)
    (h2 : zs.getD i 0 = 2) (hL : zs.getD (i + 1) 0 = (L : Int)) (h3 : 0 ≤ zs.getD (i + 2) 0 ∧ zs.getD (i + 2) 0 < 128) (h4 : 1 < L → zs.getD (i + 2) 0 = 0 → 128 ≤ zs.getD (i + 3) 0) :
    Calls Try.prog 9 #[.slice (some ⟨g, 0, none⟩) n c, .int .i64 i] w fun e w' => e = .returned (.tuple #[.int .i64 ((i + 2 : Nat) : Int), .int .i64 ((i + 2 + L : Nat) : Int), .bool true]) ∧ w = w' := by
  obtain ⟨zl, zb, hc⟩ := hr
  have c0 := hc i (by omega)
  have c1 := hc (i + 1) (by omega)
  have c2 := hc (i + 2) (by omega)
  simp only [Nat.zero_add] at c0 c1 c2
  rw [h2] at c0
  rw [hL] at c1
  have hb3 : 1 < L → w.cell? ⟨g, i + 3, none⟩ = some (.int .u8 (zs.getD (i + 3) 0)) ∧ 0 ≤ zs.getD (i + 3) 0 ∧ zs.getD (i + 3) 0 ≤ 255 := fun h => by
    have c3 := hc (i + 3) (by omega)
    simp only [Nat.zero_add] at c3
    exact ⟨c3, zb _ (by simp [List.getD, List.getElem?_eq_getElem (show i + 3 < zs.length by omega)])⟩
  clear hc zb zl h2 hL
  generalize zs.getD (i + 2) 0 = x2 at *
  generalize zs.getD (i + 3) 0 = x3 at *
  have a2 : bits .and .u8 x2 128 = 0 := by rw [and128 _ h3.1 (by omega), if_neg (by omega)]
  obtain ⟨h3a, h3b⟩ := h3
  have hL0 : ((L : Int) == 0) = false := beq_eq_false_iff_ne.2 (by omega)
  by_cases hL1' : 1 < L
  · obtain ⟨c3, x3a, x3b⟩ := hb3 hL1'
    clear hb3
    by_cases hx2 : x2 = 0
    · have a3 : bits .and .u8 x3 128 = 128 := by rw [and128 _ x3a x3b, if_pos (h4 hL1' hx2)]
      subst hx2
      clear h4
      go_enter Try.func9, Try.ntmps9
      go_wp2
      go_ret3
      exact ⟨ret_iib (by omega) (by omega), rfl⟩
    · have hx2' : (x2 == 0) = false := by simpa using hx2
      clear h4 hx2
      go_enter Try.func9, Try.ntmps9
      go_wp2
      go_ret3
      exact ⟨ret_iib (by omega) (by omega), rfl⟩
  · clear h4 hb3
    go_enter Try.func9, Try.ntmps9
    go_wp2
    go_ret3
    exact ⟨ret_iib (by omega) (by omega), rfl⟩

set_option maxRecDepth 100000 in
set_option maxHeartbeats 4000000 in
theorem same10 (g1 o1 L c1 g2 o2 c2 : Nat) (cs hs : List Int) (w : World) (hL : L ≤ 33) (r1 : Row w g1 o1 L cs) (r2 : Row w g2 o2 32 hs)
    (heq : ∀ k, k < 33 → (if 33 - L ≤ k then cs.getD (k - (33 - L)) 0 else 0) = if 1 ≤ k then hs.getD (k - 1) 0 else 0) :
    Calls Try.prog 10 #[.slice (some ⟨g1, o1, none⟩) L c1, .slice (some ⟨g2, o2, none⟩) 32 c2] w fun e w' => e = .returned (.bool true) ∧ w = w' := by
  obtain ⟨_, _, d1⟩ := r1
  obtain ⟨_, _, d2⟩ := r2
  have hb0 : decide ((33 : Int) < (L : Int)) = false := by simp; omega
  have D1 : Hid (∀ j, j < L → w.cell? ⟨g1, o1 + j, none⟩ = some (.int .u8 (cs.getD j 0))) := d1
  have D2 : Hid (∀ j, j < 32 → w.cell? ⟨g2, o2 + j, none⟩ = some (.int .u8 (hs.getD j 0))) := d2
  have HQ : Hid (∀ k, k < 33 → (if 33 - L ≤ k then cs.getD (k - (33 - L)) 0 else 0) = if 1 ≤ k then hs.getD (k - 1) 0 else 0) := heq
  clear d1 d2 heq
  obtain ⟨ld, hld⟩ : ∃ ld : Nat, ld = 33 - L := ⟨_, rfl⟩
  have hlead : (33 : Int) - (L : Int) = (ld : Int) := by omega
  have HLD : Hid (ld = 33 - L) := hld
  have hld33 : ld ≤ 33 := by omega
  clear hld
  go_enter Try.func10, Try.ntmps10
  go_wp2
  go_loop [6] (fun i => ∃ k : Nat, k ≤ 33 ∧ i = .int .i64 k) (fun i => 33 - (intOf i).toNat)
  case atStart => exact ⟨0, Nat.zero_le _, rfl⟩
  case round =>
    obtain ⟨k, hk, rfl⟩ := hrel
    by_cases hlt : k < 33
    · have hq := HQ.out k hlt
      rw [← HLD.out] at hq
      by_cases hk1 : ld ≤ k
      · rw [if_pos hk1] at hq
        have e1 := D1.out (k - ld) (by have := HLD.out; omega)
        by_cases hk2 : 1 ≤ k
        · rw [if_pos hk2] at hq
          have e2 := D2.out (k - 1) (by omega)
          rw [← hq] at e2
          clear hq
          generalize cs.getD (k - ld) 0 = x at *
          have hxx : (x != x) = false := by simp
          have hx1 : (0 : Int) ≤ (k : Int) - (ld : Int) := by omega
          have hx2 : (k : Int) - (ld : Int) < (L : Int) := by have := HLD.out; omega
          have hx3 : ((k : Int) - (ld : Int)).toNat = k - ld := by omega
          go_wp2
          go_round
          case rel => exact ⟨k + 1, by omega, by go_num⟩
          case measure => simp [intOf]; omega
        · rw [if_neg hk2] at hq
          rw [hq] at e1
          clear hq
          have hk0 : k = 0 := by omega
          subst hk0
          have hld0 : ld = 0 := by omega
          subst hld0
          have hx2 : 0 < L := by have := HLD.out; omega
          have e1' : w.cell? ⟨g1, o1, none⟩ = some (.int .u8 0) := e1
          clear e1
          go_wp2
          go_round
          case rel => exact ⟨1, by omega, rfl⟩
          case measure => simp [intOf]
      · rw [if_neg hk1] at hq
        by_cases hk2 : 1 ≤ k
        · rw [if_pos hk2] at hq
          have e2 := D2.out (k - 1) (by omega)
          rw [← hq] at e2
          clear hq
          go_wp2
          go_round
          case rel => exact ⟨k + 1, by omega, by go_num⟩
          case measure => simp [intOf]; omega
        · clear hq
          have hk0 : k = 0 := by omega
          subst hk0
          go_wp2
          go_round
          case rel => exact ⟨1, by omega, rfl⟩
          case measure => simp [intOf]
    · go_wp2
      go_ret
      exact ⟨rfl, rfl⟩

end Go.Proofs.Qxb6600187a.Asn
