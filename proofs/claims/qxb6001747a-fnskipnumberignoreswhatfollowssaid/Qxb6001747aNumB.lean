import Derived.Test.Qxb6001747aRows
import Derived.Test.Qxb6001747aNumA
import Derived.WalkKit
import Derived.ProofKit
import Derived.OpenShut
import Derived.Below
import Derived.WalkLawsBesides
import Derived.WalkSpells
import Derived.Deep.QuietTactic
import Derived.BigQuiet
import Derived.Lib.Strings
namespace Go.Proofs.Qxb6001747a.Num
open Go.RowKit

/-- A text. -/
def B (l : List UInt8) : ByteArray := ⟨l.toArray⟩
theorem B_size (l : List UInt8) : (B l).size = l.length := by simp [B, ByteArray.size]
theorem B_data (l : List UInt8) : (B l).data.toList = l := by simp [B]
theorem B_toList (l : List UInt8) : (B l).toList = l := by rw [ByteArray.toList_eq, B_data]
theorem B_of (s : ByteArray) : s = B s.data.toList := by cases s; simp [B]
theorem B_get (l : List UInt8) (k : Nat) (h : k < (B l).size) : (B l)[k] = l[k]'(by rw [B_size] at h; exact h) := by
  simp [B, ByteArray.getElem_eq_getElem_data]
theorem B_drop (l : List UInt8) (k : Nat) : (B l).extract k (B l).size = B (l.drop k) := by
  rw [B_of ((B l).extract k (B l).size), Go.Lib.extract_data, B_data, B_size]
  congr 1
  rw [List.take_of_length_le (by simp)]
theorem B_take (l : List UInt8) (k : Nat) : (B l).extract 0 k = B (l.take k) := by
  rw [B_of ((B l).extract 0 k), Go.Lib.extract_data, B_data]
  simp

theorem nd_drop (l : List UInt8) (k : Nat) (h : k < (B l).size) : nd (l.drop k) = if dig (B l)[k] then nd (l.drop (k + 1)) + 1 else 0 := by
  rw [B_get, List.drop_eq_getElem_cons (by rw [B_size] at h; exact h)]
  rfl
theorem dig_yes {c : UInt8} (h1 : (48 : Int) ≤ (c.toNat : Int)) (h2 : (c.toNat : Int) ≤ 57) : dig c = true := by
  unfold dig
  simp
  omega
theorem dig_no {c : UInt8} (h : (c.toNat : Int) < 48 ∨ (57 : Int) < (c.toNat : Int)) : dig c = false := by
  unfold dig
  simp
  omega

set_option maxHeartbeats 400000 in
theorem count23 (l : List UInt8) (w : World) (hl : l.length ≤ 2000000) :
    Calls Try.prog 23 #[.string (B l)] w fun e w' => e = .returned (.int .i64 (nd l)) ∧ w' = w := by
  have HD : Hid (∀ k (h : k < (B l).size), nd (l.drop k) = if dig (B l)[k] then nd (l.drop (k + 1)) + 1 else 0) := nd_drop l
  have hsz := B_size l
  generalize B l = s at *
  have hss : s.size ≤ 2000000 := by omega
  have HZ : Hid (s.size = l.length) := hsz
  clear hsz
  go_enter Try.func23, Try.ntmps23
  go_wp2
  go_loop [3] (fun i => ∃ k : Nat, k ≤ s.size ∧ i = .int .i64 k ∧ Hid (nd l = k + nd (l.drop k))) (fun i => s.size - (intOf i).toNat)
  case atStart => exact ⟨0, Nat.zero_le _, rfl, by show nd l = 0 + nd l; omega⟩
  case round =>
    obtain ⟨k, hk, rfl, hall⟩ := hrel
    by_cases hlt : k < s.size
    · have hdk := HD.out k hlt
      have HK : Hid (nd (l.drop k) = if dig s[k] then nd (l.drop (k + 1)) + 1 else 0) := hdk
      clear hdk
      go_wp2
      · go_round
        case rel => exact ⟨k + 1, by omega, by go_num, by have := HK.out; rw [dig_yes ‹_› ‹_›] at this; have h2 := hall.out; show nd l = k + 1 + nd (l.drop (k + 1)); simp at this; omega⟩
        case measure => simp [intOf]; omega
      · have hn : nd l = k := by have := HK.out; rw [dig_no (.inr ‹_›)] at this; have h2 := hall.out; simp at this; omega
        go_ret
        exact ⟨by rw [hn]; rfl, rfl⟩
      · have hn : nd l = k := by have := HK.out; rw [dig_no (.inl ‹_›)] at this; have h2 := hall.out; simp at this; omega
        go_ret
        exact ⟨by rw [hn]; rfl, rfl⟩
    · have hn : nd l = k := by have h2 := hall.out; rw [List.drop_of_length_le (by have := HZ.out; omega)] at h2; simpa [nd] using h2
      have HN : Hid (nd l = k) := hn
      clear hn
      go_wp2
      go_ret
      exact ⟨by rw [HN.out]; rfl, rfl⟩

end Go.Proofs.Qxb6001747a.Num
