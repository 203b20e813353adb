import Derived.Test.Qxb6001747aHdrE
namespace Go.Proofs.Qxb6001747a.Hdr
open Go.RowKit Go.Maps

/-- 'len(h)'. -/
theorem Hdr.len {nm vl : Nat → ByteArray} {B k : Nat} {w : World} {D : DataW Value} {V : ByteArray → Value} (h : Hdr nm vl B k w D V) (ty : TypeId) : (Builtin.len_ #[33] ty #[.map (some B)]).run Try.prog w = .ok (.int .i64 (dc nm vl k)) w := by
  rw [h.own.len Try.underlying33, h.size]

theorem Cloned.out {w w' : World} {len : Nat} {e : Ending} (h : Cloned w len e w') : ∃ a2 cap2 A L C Z, e = .returned (.slice a2 len cap2) ∧ Pairs w' a2 len A L C Z ∧ Short len L := by
  rcases h with ⟨rfl, rfl⟩ | ⟨vs, rfl, ho, hv⟩
  · exact ⟨none, 0, fun _ => none, fun _ => 0, fun _ => 0, fun _ => [], rfl, .inl rfl, fun j hj => by omega⟩
  · obtain ⟨A, L, C, Z, h1, h2⟩ := Cloned.pairs ho hv
    exact ⟨_, _, A, L, C, Z, rfl, h1, h2⟩

set_option maxHeartbeats 2000000 in
/-- Behind the copy: an even list. -/
theorem walk6 (a : Option Addr) (len cap : Nat) (A : Nat → Option Addr) (L C : Nat → Nat) (Z : Nat → List Int) (w : World) (hl : len ≤ maxLen) (hL : ∀ j, j < len → L j ≤ maxLen) (hp : Pairs w a len A L C Z) (hn : a = none → len = 0) :
    Calls Try.prog 6 #[.slice a len cap] w fun e w' => e = .returned (.bool true) ∧ Below w.heap.size w w' := by
  have hl' := hl
  unfold maxLen at hl'
  go_enter Try.func6, Try.ntmps6
  go_wp2_with fail
  refine (bytes14 a len cap A L C Z w hl hL hp).mono ?_
  rintro e w' ⟨⟨r, rfl, hr⟩, rfl⟩
  cases r with
  | false =>
    go_wp2
    go_ret
    exact ⟨rfl, Below.refl _ _⟩
  | true =>
    have hS : Short len L := hr rfl
    clear hr
    by_cases h16 : len ≤ 65536
    · go_wp2_with fail
      refine (fit15 a len cap A L C Z _ h16 hS hp).mono ?_
      rintro e w' ⟨⟨r, rfl, hr⟩, rfl⟩
      cases r with
      | false =>
        go_wp2
        go_ret
        exact ⟨rfl, Below.refl _ _⟩
      | true =>
        have hF : Few len := hr rfl
        have hF' : len ≤ 43690 := by unfold Few at hF; omega
        clear hr
        go_wp2_with fail
        refine (clone16 a len cap A L C Z _ hF hS hp hn).mono ?_
        rintro e w1 ⟨hb1, hcl⟩
        obtain ⟨a2, cap2, A2, L2, C2, Z2, rfl, hp2, hS2⟩ := hcl.out
        clear hcl hp hS hL hn
        by_cases hodd : len % 2 = 1
        · have h1 : ((len : Int) % 2 != 0) = true := by rw [bne_iff_ne]; omega
          go_wp2_with fail
          refine (hdrZ_odd a2 len cap2 w1 h16 hodd).mono ?_
          rintro e w2 ⟨rfl, hb2⟩
          go_wp2
          go_ret
          exact ⟨rfl, hb1.trans (hb2.mono hb1.size)⟩
        · have h1 : ((len : Int) % 2 != 0) = false := by simp; omega
          go_wp2_with fail
          obtain ⟨K, hK⟩ : ∃ K, len = 2 * K := ⟨len / 2, by omega⟩
          have hZ := hdrZ_even a2 K cap2 A2 L2 C2 Z2 w1 (hK ▸ hF) (hK ▸ hS2) (hK ▸ hp2)
          rw [← hK] at hZ
          refine hZ.mono ?_
          rintro e w2 ⟨rfl, ⟨D, V, hd⟩, hb2⟩
          have q33 := fun W r => run_eql_map_nil (P := Try.prog) W 33 9 36 r Try.underlying33
          have hlen := fun ty => hd.len ty
          have hdl := dc_le (fun j => strOfNums (Z2 (2 * j))) (fun j => strOfNums (Z2 (2 * j + 1))) K
          have hdp := dc_pos (fun j => strOfNums (Z2 (2 * j))) (fun j => strOfNums (Z2 (2 * j + 1))) K
          generalize dc (fun j => strOfNums (Z2 (2 * j))) (fun j => strOfNums (Z2 (2 * j + 1))) K = d at *
          have hd2 : 2 * d ≤ len := by omega
          have hd3 : len = 0 ∨ 1 ≤ d := by omega
          have hdp' : Hid (len = 2 * K) := hK
          clear hdl hdp hZ hd hK
          rcases hd3 with h0 | h0
          · subst h0
            go_wp2
            go_ret
            exact ⟨rfl, hb1.trans (hb2.mono hb1.size)⟩
          · have hdec : decide ((1 : Int) ≤ (d : Int)) = true := by simp; omega
            go_wp2
            go_ret
            exact ⟨by simp, hb1.trans (hb2.mono hb1.size)⟩
    · go_wp2
      go_ret
      exact ⟨rfl, Below.refl _ _⟩

end Go.Proofs.Qxb6001747a.Hdr
