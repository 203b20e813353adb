import Derived.Test.Qxb6600187aAsnC
import Derived.Deep.QuietTactic
import Derived.BigQuiet
namespace Go.Proofs.Qxb6600187a.Asn
open Go.RowKit Go.Proofs.Qxb6600187a.Esc

/-- The whole text. -/
def Z (q : Int) (h1 h2 : List Int) (j1 j2 : Nat) : List Int := [48, q] ++ (enc h1 j1 ++ enc h2 j2)

theorem Z_eq (q : Int) (h1 h2 : List Int) (j1 j2 : Nat) : Z q h1 h2 j1 j2 = [48, q, 2, ((ct h1 j1).length : Int)] ++ (ct h1 j1 ++ ([2, ((ct h2 j2).length : Int)] ++ ct h2 j2)) := by
  simp [Z, enc]
theorem Z_at (q : Int) (h1 h2 : List Int) (j1 j2 : Nat) :
    (Z q h1 h2 j1 j2).getD 0 0 = 48 ∧ (Z q h1 h2 j1 j2).getD 1 0 = q ∧ (Z q h1 h2 j1 j2).getD 2 0 = 2 ∧ (Z q h1 h2 j1 j2).getD 3 0 = ((ct h1 j1).length : Int) ∧ (∀ i, i < (ct h1 j1).length → (Z q h1 h2 j1 j2).getD (4 + i) 0 = (ct h1 j1).getD i 0) ∧
      (Z q h1 h2 j1 j2).getD (4 + (ct h1 j1).length) 0 = 2 ∧ (Z q h1 h2 j1 j2).getD (4 + (ct h1 j1).length + 1) 0 = ((ct h2 j2).length : Int) ∧ (∀ i, (Z q h1 h2 j1 j2).getD (4 + (ct h1 j1).length + 2 + i) 0 = (ct h2 j2).getD i 0) := by
  rw [Z_eq]
  refine ⟨rfl, rfl, rfl, rfl, fun i hi => ?_, ?_, ?_, fun i => ?_⟩
  · rw [show 4 + i = ([48, q, 2, ((ct h1 j1).length : Int)] : List Int).length + i from rfl, getD_at, getD_left _ _ _ hi]
  · rw [show 4 + (ct h1 j1).length = ([48, q, 2, ((ct h1 j1).length : Int)] : List Int).length + ((ct h1 j1).length + 0) from rfl, getD_at, getD_at]
    rfl
  · rw [show 4 + (ct h1 j1).length + 1 = ([48, q, 2, ((ct h1 j1).length : Int)] : List Int).length + ((ct h1 j1).length + 1) by simp; omega, getD_at, getD_at]
    rfl
  · rw [show 4 + (ct h1 j1).length + 2 + i = ([48, q, 2, ((ct h1 j1).length : Int)] : List Int).length + ((ct h1 j1).length + (([2, ((ct h2 j2).length : Int)] : List Int).length + i)) by simp; omega, getD_at, getD_at, getD_at]

set_option maxRecDepth 100000 in
set_option maxHeartbeats 4000000 in
theorem walk3 (b off c : Nat) (zs : List Int) (w : World) (hr : Row w b off 64 zs) (hb : b < w.heap.size) :
    Calls Try.prog 3 #[.slice (some ⟨b, off, none⟩) 64 c] w fun e w' => e = .returned (.bool true) ∧ Below w.heap.size w w' := by
  go_enter Try.func3, Try.ntmps3
  go_wp2_with fail
  refine (bytes6 _ 64 c w (by unfold maxLen; omega)).mono ?_
  rintro e wz ⟨⟨r, rfl, _⟩, rfl⟩
  cases r with
  | false =>
    go_wp2
    go_ret
    exact ⟨rfl, Below.refl _ _⟩
  | true =>
    go_wp2_with fail
    refine (copy7 b off 64 c zs w (by omega) hr hb).mono ?_
    rintro e w1 ⟨rfl, hb1, hlt1, ys, hR⟩
    clear hr hb
    go_wp2_with fail
    refine (asn8 w.heap.size ys w1 hR hlt1).mono ?_
    rintro e w2 ⟨j1, j2, g, cap, n, hs1, hs2, hn, rfl, hcap, hg1, hg2, hb2, hD⟩
    have hR2 := hR.below hb2 hlt1
    obtain ⟨hA, hB⟩ := row_half ys w2 w.heap.size hR2
    have hBT : Below w.heap.size w w2 := hb1.trans (hb2.mono hb1.size)
    have hb1' := row_bytes hA
    have hb2' := row_bytes hB
    have c1 := ct_bd hA.1 hs1.1
    have c2 := ct_bd hB.1 hs2.1
    have z1 := ct_zero (j := j1) hb1'
    have z2 := ct_zero (j := j2) hb2'
    have m1 := ct_min hA.1 hs1
    have m2 := ct_min hB.1 hs2
    have s1 := ct_same hA.1 hs1
    have s2 := ct_same hB.1 hs2
    rw [enc_len, enc_len] at hn
    have hZ := Z_at ((n : Int) - 2) (ys.take 32) (ys.drop 32) j1 j2
    have hD' : Row w2 g 0 n (Z ((n : Int) - 2) (ys.take 32) (ys.drop 32) j1 j2) := hD
    clear hD hR hR2 hb1 hb2 hb1' hb2' hs1 hs2
    generalize Z ((n : Int) - 2) (ys.take 32) (ys.drop 32) j1 j2 = ds at *
    generalize ct (ys.take 32) j1 = t1 at *
    generalize ct (ys.drop 32) j2 = t2 at *
    generalize hL1 : t1.length = L1 at *
    generalize hL2 : t2.length = L2 at *
    obtain ⟨a0, a1, a2, a3, a4, a5, a6, a7⟩ := hZ
    have hrow := hD'
    obtain ⟨dl, db, dc⟩ := hD'
    have r1 : Row w2 g 4 L1 t1 := ⟨hL1, fun z hz => by
      obtain ⟨i, hi, rfl⟩ := List.mem_iff_getElem.1 hz
      have := a4 i (by omega)
      rw [show t1[i] = t1.getD i 0 by simp [List.getD, List.getElem?_eq_getElem hi], ← this]
      exact row_bytes hrow _, fun j hj => by rw [← a4 j hj]; have := dc (4 + j) (by omega); rwa [Nat.zero_add] at this⟩
    have r2 : Row w2 g (4 + L1 + 2) L2 t2 := ⟨hL2, fun z hz => by
      obtain ⟨i, hi, rfl⟩ := List.mem_iff_getElem.1 hz
      have := a7 i
      rw [show t2[i] = t2.getD i 0 by simp [List.getD, List.getElem?_eq_getElem hi], ← this]
      exact row_bytes hrow _, fun j hj => by rw [← a7 j]; have := dc (4 + L1 + 2 + j) (by omega); rwa [Nat.zero_add] at this⟩
    have k0 := dc 0 (by omega)
    have k1 := dc 1 (by omega)
    rw [a0] at k0
    rw [a1] at k1
    have d1 := der9 g n cap 2 L1 ds w2 (by omega) hrow (by omega) (by omega) (by omega) a2 a3 (by rw [show 2 + 2 = 4 + 0 from rfl, a4 0 (by omega)]; exact z1) (fun h1 h2 => by
      rw [show 2 + 2 = 4 + 0 from rfl, a4 0 (by omega)] at h2
      rw [show 2 + 3 = 4 + 1 from rfl, a4 1 (by omega)]
      exact m1 h1 h2)
    have d2 := der9 g n cap (4 + L1) L2 ds w2 (by omega) hrow (by omega) (by omega) (by omega) a5 a6 (by rw [← Nat.add_zero (4 + L1 + 2), a7 0]; exact z2) (fun h1 h2 => by
      rw [← Nat.add_zero (4 + L1 + 2), a7 0] at h2
      rw [show 4 + L1 + 3 = 4 + L1 + 2 + 1 from rfl, a7 1]
      exact m2 h1 h2)
    have e1 := fun nq => same10 g 4 L1 (cap - 4) w.heap.size 0 64 t1 (ys.take 32) (w2.drewN nq) (by omega) r1 hA s1
    have e2 := fun nq => same10 g (4 + L1 + 2) L2 (cap - (4 + L1 + 2)) w.heap.size 32 32 t2 (ys.drop 32) (w2.drewN nq) (by omega) r2 hB s2
    have HE1 : Hid (∀ nq, Calls Try.prog 10 #[.slice (some ⟨g, 4, none⟩) L1 (cap - 4), .slice (some ⟨w.heap.size, 0, none⟩) 32 64] (w2.drewN nq) fun e w' => e = .returned (.bool true) ∧ w' = w2.drewN nq) := fun nq => (e1 nq).mono fun e w' h => ⟨h.1, h.2.symm⟩
    have HE2 : Hid (∀ nq, Calls Try.prog 10 #[.slice (some ⟨g, 4 + L1 + 2, none⟩) L2 (cap - (4 + L1 + 2)), .slice (some ⟨w.heap.size, 32, none⟩) 32 32] (w2.drewN nq) fun e w' => e = .returned (.bool true) ∧ w' = w2.drewN nq) := fun nq => (e2 nq).mono fun e w' h => ⟨h.1, h.2.symm⟩
    have HD1 : Hid (Calls Try.prog 9 #[.slice (some ⟨g, 0, none⟩) n cap, .int .i64 2] w2 fun e w' => e = .returned (.tuple #[.int .i64 4, .int .i64 ((4 + L1 : Nat) : Int), .bool true]) ∧ w2 = w') := d1
    have hnn : 4 + L1 + 2 + L2 = n := by omega
    rw [hnn] at d2
    have HD2 : Hid (Calls Try.prog 9 #[.slice (some ⟨g, 0, none⟩) n cap, .int .i64 ((4 + L1 : Nat) : Int)] w2 fun e w' => e = .returned (.tuple #[.int .i64 ((4 + L1 + 2 : Nat) : Int), .int .i64 (n : Int), .bool true]) ∧ w2 = w') := d2
    clear e1 e2 d1 d2 a0 a1 a2 a3 a4 a5 a6 a7 dl db dc r1 r2 hA hB s1 s2 m1 m2 z1 z2 hrow
    have HN : Hid (n = 2 + (2 + L1 + (2 + L2))) := hn
    have hn72 : n ≤ 72 := by omega
    have hn6 : 6 ≤ n := by omega
    clear hn
    have q1 : ((n : Int) - 2 != (n : Int) - 2) = false := by simp
    have hnI : (0 : Int) ≤ (n : Int) - 2 := by omega
    have hq2 : (n : Int) - 2 ≤ 70 := by omega
    obtain ⟨p1, hp1⟩ : ∃ p1, p1 = 4 + L1 := ⟨_, rfl⟩
    obtain ⟨p2, hp2⟩ : ∃ p2, p2 = 4 + L1 + 2 := ⟨_, rfl⟩
    rw [← hp2] at HE2 HD2
    rw [← hp1] at HD1 HD2
    have hpp1 : p1 ≤ n := by omega
    have hpp2 : p2 < n := by omega
    have hpp3 : 4 ≤ p1 := by omega
    have HP1 : Hid (p1 = 4 + L1) := hp1
    rw [show L1 = p1 - 4 by omega] at HE1
    rw [show L2 = n - p2 by omega] at HE2
    clear hp1 hp2 hnn
    go_wp2_with fail
    refine HD1.out.mono ?_
    rintro e wz ⟨rfl, rfl⟩
    go_wp2_with fail
    refine HD2.out.mono ?_
    rintro e wz ⟨rfl, rfl⟩
    have q3 : ((n : Int) != (n : Int)) = false := by simp
    have hc4 : ¬ cap = 4 := by omega
    have hcp : ¬ cap = p2 := by omega
    have i1 : (4 : Int) ≤ (p1 : Int) := by omega
    have i2 : (p1 : Int) ≤ (cap : Int) := by omega
    have i3 : (p2 : Int) ≤ (n : Int) := by omega
    have i4 : (n : Int) ≤ (cap : Int) := by omega
    have i5' : (0 : Int) ≤ (p2 : Int) := by omega
    go_wp2_with fail
    refine wp_region_quiet_lit (by kernel_rfl) (by kernel_rfl) ?_
    iterate 6 (quiet_step (fail))
    refine wpQuiet_step (fun K hK => ?_)
    go_simp
    apply Exists.intro
    refine ⟨fun _ => ?_, hK _ ?_⟩
    exact Calls.quiet_of_same (HE1.out _)
    clear hK K
    iterate 7 (quiet_step (fail))
    refine wpQuiet_step (fun K hK => ?_)
    go_simp
    apply Exists.intro
    refine ⟨fun _ => ?_, hK _ ?_⟩
    exact Calls.quiet_of_same (HE2.out _)
    clear hK K
    iterate 2 (quiet_step (fail))
    refine wpQuiet_nil ?_
    intro _ hw'
    obtain ⟨nq, hw''⟩ := hw'
    subst hw''
    go_wp2
    go_ret
    exact ⟨rfl, ⟨hBT.os, hBT.tape, hBT.output, hBT.size, hBT.block⟩⟩

set_option maxHeartbeats 1000000 in
theorem walk3_other (a : Option Addr) (n c : Nat) (w : World) (hn : n ≤ maxLen) (h : n ≠ 64) : Calls Try.prog 3 #[.slice a n c] w fun e w' => e = .returned (.bool true) ∧ Below w.heap.size w w' := by
  have hn' := hn
  unfold maxLen at hn'
  have h64 : ((n : Int) != 64) = true := by rw [bne_iff_ne]; omega
  go_enter Try.func3, Try.ntmps3
  go_wp2_with fail
  refine (bytes6 a n c w hn).mono ?_
  rintro e wz ⟨⟨r, rfl, hr⟩, rfl⟩
  cases r with
  | false =>
    go_wp2
    go_ret
    exact ⟨rfl, Below.refl _ _⟩
  | true =>
    have hS : n ≤ 1048576 := hr rfl
    clear hr
    go_wp2
    go_ret
    exact ⟨rfl, Below.refl _ _⟩

end Go.Proofs.Qxb6600187a.Asn
