import Derived.Test.Qxb6001747aNumD
namespace Go.Proofs.Qxb6001747a.Num
open Go.RowKit

theorem B_head (m : List UInt8) (h : 0 < (B m).size) : ∃ q, m = (B m)[0] :: q := by
  cases m with
  | nil => simp [B_size] at h
  | cons c q => exact ⟨q, by rw [B_get]; rfl⟩

/-- An ASCII digit, as a number. -/
def isd (x : Int) : Bool := decide (48 ≤ x) && decide (x ≤ 57)
theorem isd_dig (c : UInt8) : isd (c.toNat : Int) = dig c := by
  unfold isd dig
  congr 1 <;> (rw [Bool.eq_iff_iff]; simp; omega)

set_option maxHeartbeats 400000 in
theorem digit11 (x : Int) (w : World) : Calls Try.prog 11 #[.int .u8 x] w fun e w' => e = .returned (.bool (isd x)) ∧ w = w' := by
  by_cases h1 : 48 ≤ x
  · by_cases h2 : x ≤ 57
    · go_enter Try.func11, Try.ntmps11
      go_wp2
      go_ret
      exact ⟨by simp [isd, h1, h2], rfl⟩
    · go_enter Try.func11, Try.ntmps11
      go_wp2
      go_ret
      exact ⟨by simp [isd, h1, h2], rfl⟩
  · go_enter Try.func11, Try.ntmps11
    go_wp2
    go_ret
    exact ⟨by simp [isd]; omega, rfl⟩

set_option maxHeartbeats 4000000 in
theorem walk4 (l m : List UInt8) (w : World) : Calls Try.prog 4 #[.string (B l), .string (B m)] w fun e w' => e = .returned (.bool true) ∧ Below w.heap.size w w' := by
  have hl := B_size l
  have hm := B_size m
  have Hl : Hid ((B l).size = l.length) := hl
  have Hm : Hid ((B m).size = m.length) := hm
  clear hl hm
  go_enter Try.func4, Try.ntmps4
  go_wp2_with fail
  refine (bytes12 l m w).mono ?_
  rintro e w' ⟨⟨r, rfl, hr⟩, rfl⟩
  cases r with
  | false =>
    go_wp2
    go_ret
    exact ⟨rfl, Below.refl _ _⟩
  | true =>
    have hS : l.length + m.length ≤ 1048576 := hr rfl
    clear hr
    have g1 : (B l).size ≤ 1048576 := by have := Hl.out; omega
    have g2 : (B m).size ≤ 1048576 := by have := Hm.out; omega
    have g3 : (B l).size + (B m).size ≤ 1048576 := by have := Hl.out; have := Hm.out; omega
    by_cases hz : (B m).size = 0
    · have HT : Hid (nodig m ∧ m.head? ≠ some 46) := by
        obtain rfl : m = [] := List.length_eq_zero_iff.1 (by have := Hm.out; omega)
        exact ⟨trivial, by simp⟩
      go_wp2_with fail
      refine (skipZ9 l _ (by omega)).mono ?_
      rintro e w1 ⟨hb1, hm1⟩
      cases hsk : sk l with
      | none =>
        rw [hsk] at hm1
        simp only at hm1
        subst hm1
        clear hsk
        go_wp2
        go_ret
        exact ⟨rfl, hb1⟩
      | some x =>
        obtain ⟨rest, d⟩ := x
        rw [hsk] at hm1
        simp only at hm1
        subst hm1
        obtain ⟨sg, ws, fs, hpl, hsg, hw, hw1, hnr, hdd⟩ := sk_parts hsk
        have hfol := sk_follow hsg hw hw1 hdd HT.out.1 HT.out.2
        have hpl2 : l = sg ++ (ws ++ fs) ++ rest := by rw [hpl]; simp
        generalize sg ++ (ws ++ fs) = p at *
        subst hpl2
        clear hpl hsg hw hw1 hnr hdd hsk
        have HF : Hid (sk (p ++ m) = some (m, d)) := hfol
        clear hfol
        have hpr : (p ++ rest).length ≤ 1048576 := by omega
        have hpm : (p ++ m).length ≤ 1048576 := by simp at hS ⊢; omega
        have hex : (B (p ++ rest)).extract 0 ((B (p ++ rest)).size - (B rest).size) = B p := by
          rw [B_take, B_size, B_size]; congr 1; simp
        have hle : (B rest).size ≤ (B (p ++ rest)).size := by rw [B_size, B_size]; simp
        have hap := B_app p m
        have hps : (B p).size + (B m).size ≤ 1048576 := by rw [B_size, B_size]; simp at hpm; omega
        go_wp2_with fail
        refine (suffix10 p rest _ hpr).mono ?_
        rintro e w2 ⟨rfl, rfl⟩
        go_wp2_with fail
        refine (skipZ9 (p ++ m) _ (by omega)).mono ?_
        rintro e w3 ⟨hb3, hm3⟩
        rw [HF.out] at hm3
        simp only at hm3
        subst hm3
        have hbb : Below w'.heap.size w' w3 := hb1.trans (hb3.mono hb1.size)
        cases d
        · go_wp2
          go_ret
          exact ⟨by simp, hbb⟩
        · go_wp2
          go_ret
          exact ⟨by simp, hbb⟩
    · have hz1 : 0 < (B m).size := by omega
      obtain ⟨q, hq⟩ := B_head m hz1
      have HQ : Hid (m = (B m)[0] :: q) := hq
      clear hq
      by_cases hd1 : isd ((B m)[0].toNat : Int) = true
      · go_wp2_with (go_at_call 11; refine (digit11 _ _).mono ?_; rintro e wz ⟨rfl, rfl⟩)
        go_ret
        exact ⟨rfl, Below.refl _ _⟩
      · have hd2 : isd ((B m)[0].toNat : Int) = false := by simpa using hd1
        clear hd1
        by_cases hd46 : (((B m)[0].toNat : Int) == 46) = true
        · go_wp2_with (go_at_call 11; refine (digit11 _ _).mono ?_; rintro e wz ⟨rfl, rfl⟩)
          go_ret
          exact ⟨rfl, Below.refl _ _⟩
        · have h46 : (((B m)[0].toNat : Int) == 46) = false := by simpa using hd46
          have HT : Hid (nodig m ∧ m.head? ≠ some 46) := by
            have hdd := isd_dig (B m)[0]
            rw [hd2] at hdd
            rw [HQ.out]
            refine ⟨hdd.symm, fun e => ?_⟩
            simp at e h46
            rw [e] at h46
            exact h46 rfl
          clear hd46
          go_wp2_with (go_at_call 11; refine (digit11 _ _).mono ?_; rintro e wz ⟨rfl, rfl⟩)
          refine (skipZ9 l _ (by omega)).mono ?_
          rintro e w1 ⟨hb1, hm1⟩
          cases hsk : sk l with
          | none =>
            rw [hsk] at hm1
            simp only at hm1
            subst hm1
            clear hsk
            go_wp2
            go_ret
            exact ⟨rfl, hb1⟩
          | some x =>
            obtain ⟨rest, d⟩ := x
            rw [hsk] at hm1
            simp only at hm1
            subst hm1
            obtain ⟨sg, ws, fs, hpl, hsg, hw, hw1, hnr, hdd⟩ := sk_parts hsk
            have hfol := sk_follow hsg hw hw1 hdd HT.out.1 HT.out.2
            have hpl2 : l = sg ++ (ws ++ fs) ++ rest := by rw [hpl]; simp
            generalize sg ++ (ws ++ fs) = p at *
            subst hpl2
            clear hpl hsg hw hw1 hnr hdd hsk
            have HF : Hid (sk (p ++ m) = some (m, d)) := hfol
            clear hfol
            have hpr : (p ++ rest).length ≤ 1048576 := by omega
            have hpm : (p ++ m).length ≤ 1048576 := by simp at hS ⊢; omega
            have hex : (B (p ++ rest)).extract 0 ((B (p ++ rest)).size - (B rest).size) = B p := by
              rw [B_take, B_size, B_size]; congr 1; simp
            have hle : (B rest).size ≤ (B (p ++ rest)).size := by rw [B_size, B_size]; simp
            have hap := B_app p m
            have hps : (B p).size + (B m).size ≤ 1048576 := by rw [B_size, B_size]; simp at hpm; omega
            go_wp2_with fail
            refine (suffix10 p rest _ hpr).mono ?_
            rintro e w2 ⟨rfl, rfl⟩
            go_wp2_with fail
            refine (skipZ9 (p ++ m) _ (by omega)).mono ?_
            rintro e w3 ⟨hb3, hm3⟩
            rw [HF.out] at hm3
            simp only at hm3
            subst hm3
            have hbb : Below w'.heap.size w' w3 := hb1.trans (hb3.mono hb1.size)
            cases d
            · go_wp2
              go_ret
              exact ⟨by simp, hbb⟩
            · go_wp2
              go_ret
              exact ⟨by simp, hbb⟩

end Go.Proofs.Qxb6001747a.Num
