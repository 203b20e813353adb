/- The plain side of asn1Signature: no Go in sight. -/
import Derived.Test.Qxb6600187aEscA
namespace Go.Proofs.Qxb6600187a.Asn
open Go.Proofs.Qxb6600187a.Esc (getD_drop getD_take getD_app)

/-- The content of the INTEGER: the half from byte j on, a zero ahead where the sign bit is set. -/
def ct (h : List Int) (j : Nat) : List Int := if 128 ≤ h.getD j 0 then 0 :: h.drop j else h.drop j
/-- The INTEGER. -/
def enc (h : List Int) (j : Nat) : List Int := [2, ((ct h j).length : Int)] ++ ct h j
/-- j bytes are stripped from the half h. -/
def Strip (h : List Int) (j : Nat) : Prop := j ≤ 31 ∧ (∀ i, i < j → h.getD i 0 = 0) ∧ (j < 31 → h.getD j 0 ≠ 0)
def Bytes (h : List Int) : Prop := ∀ i, 0 ≤ h.getD i 0 ∧ h.getD i 0 ≤ 255

theorem ct_len {h : List Int} {j : Nat} (hl : h.length = 32) (hj : j ≤ 31) : (ct h j).length = if 128 ≤ h.getD j 0 then 33 - j else 32 - j := by
  unfold ct
  split
  · simp [hl]; omega
  · simp [hl]
theorem ct_bd {h : List Int} {j : Nat} (hl : h.length = 32) (hj : j ≤ 31) : 1 ≤ (ct h j).length ∧ (ct h j).length ≤ 33 := by
  rw [ct_len hl hj]
  split <;> omega
theorem enc_len (h : List Int) (j : Nat) : (enc h j).length = 2 + (ct h j).length := by simp [enc]; omega

theorem ct_zero {h : List Int} {j : Nat} (hb : Bytes h) : 0 ≤ (ct h j).getD 0 0 ∧ (ct h j).getD 0 0 < 128 := by
  unfold ct
  split
  · simp
  · rw [getD_drop]
    have := hb j
    simp only [Nat.add_zero]
    omega
theorem ct_min {h : List Int} {j : Nat} (hl : h.length = 32) (hs : Strip h j) (h1 : 1 < (ct h j).length) (h0 : (ct h j).getD 0 0 = 0) : 128 ≤ (ct h j).getD 1 0 := by
  rw [ct_len hl hs.1] at h1
  unfold ct at h0 ⊢
  split
  · rename_i hc
    simp only [List.getD_cons_succ, getD_drop, Nat.add_zero]
    exact hc
  · rename_i hc
    rw [if_neg hc] at h0 h1
    rw [getD_drop, Nat.add_zero] at h0
    exact absurd h0 (hs.2.2 (by omega))

/-- Both laid right-aligned in 33 bytes. -/
theorem ct_same {h : List Int} {j : Nat} (hl : h.length = 32) (hs : Strip h j) (k : Nat) (hk : k < 33) :
    (if 33 - (ct h j).length ≤ k then (ct h j).getD (k - (33 - (ct h j).length)) 0 else 0) = if 1 ≤ k then h.getD (k - 1) 0 else 0 := by
  have hlen := ct_len hl hs.1
  obtain ⟨hj, hz, _⟩ := hs
  by_cases hc : 128 ≤ h.getD j 0
  · rw [if_pos hc] at hlen
    rw [hlen]
    have e : ct h j = 0 :: h.drop j := by unfold ct; rw [if_pos hc]
    rw [e]
    by_cases h1 : 33 - (33 - j) ≤ k
    · rw [if_pos h1]
      by_cases h2 : k = j
      · subst h2
        rw [show k - (33 - (33 - k)) = 0 by omega]
        simp only [List.getD_cons_zero]
        by_cases h3 : 1 ≤ k
        · rw [if_pos h3, hz (k - 1) (by omega)]
        · rw [if_neg h3]
      · rw [show k - (33 - (33 - j)) = (k - 1 - j) + 1 by omega, List.getD_cons_succ, getD_drop, if_pos (by omega), show j + (k - 1 - j) = k - 1 by omega]
    · rw [if_neg h1]
      by_cases h3 : 1 ≤ k
      · rw [if_pos h3, hz (k - 1) (by omega)]
      · rw [if_neg h3]
  · rw [if_neg hc] at hlen
    rw [hlen]
    have e : ct h j = h.drop j := by unfold ct; rw [if_neg hc]
    rw [e]
    by_cases h1 : 33 - (32 - j) ≤ k
    · rw [if_pos h1, getD_drop, if_pos (by omega), show j + (k - (33 - (32 - j))) = k - 1 by omega]
    · rw [if_neg h1]
      by_cases h3 : 1 ≤ k
      · rw [if_pos h3, hz (k - 1) (by omega)]
      · rw [if_neg h3]

theorem getD_at (p q : List Int) (i : Nat) : (p ++ q).getD (p.length + i) 0 = q.getD i 0 := by
  simp [List.getD, List.getElem?_append_right]
theorem getD_left (p q : List Int) (i : Nat) (h : i < p.length) : (p ++ q).getD i 0 = p.getD i 0 := by
  simp [List.getD, List.getElem?_append_left h]

end Go.Proofs.Qxb6600187a.Asn
