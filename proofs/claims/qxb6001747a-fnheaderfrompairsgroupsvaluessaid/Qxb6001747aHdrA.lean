import Derived.Test.Qxb6001747aRows
import Derived.WalkKit
import Derived.ProofKit
import Derived.OpenShut
import Derived.Below
import Derived.WalkLawsBesides
namespace Go.Proofs.Qxb6001747a.Hdr
open Go.RowKit

/-- A slice of bytes that reads as zs. -/
def Bytes (w : World) (a : Option Addr) (len : Nat) (zs : List Int) : Prop :=
  zs.length = len ∧ (∀ z ∈ zs, 0 ≤ z ∧ z ≤ 255) ∧ (len = 0 ∨ ∃ b off, a = some ⟨b, off, none⟩ ∧ b < w.heap.size ∧ ∀ j, j < len → w.cell? ⟨b, off + j, none⟩ = some (.int .u8 (zs.getD j 0)))

/-- A slice of slices of bytes. -/
def Pairs (w : World) (a : Option Addr) (len : Nat) (A : Nat → Option Addr) (L C : Nat → Nat) (Z : Nat → List Int) : Prop :=
  len = 0 ∨ ∃ b off, a = some ⟨b, off, none⟩ ∧ b < w.heap.size ∧ ∀ j, j < len → w.cell? ⟨b, off + j, none⟩ = some (.slice (A j) (L j) (C j)) ∧ Bytes w (A j) (L j) (Z j)

/-- It returns a bool; and where that is true, p. -/
def Tells (e : Ending) (p : Prop) : Prop := ∃ r : Bool, e = .returned (.bool r) ∧ (r = true → p)
theorem Tells.no (p : Prop) : Tells (.returned (.bool false)) p := ⟨false, rfl, by simp⟩
theorem Tells.yes {p : Prop} (h : p) : Tells (.returned (.bool true)) p := ⟨true, rfl, fun _ => h⟩

/-- Each of the first len slices is short. -/
def Short (len : Nat) (L : Nat → Nat) : Prop := ∀ j, j < len → L j ≤ 1048576
/-- There are few. -/
def Few (len : Nat) : Prop := 24 * len ≤ 1048576

set_option maxHeartbeats 400000 in
theorem bytes14 (a : Option Addr) (len cap : Nat) (A : Nat → Option Addr) (L C : Nat → Nat) (Z : Nat → List Int) (w : World) (hl : len ≤ maxLen) (hL : ∀ j, j < len → L j ≤ maxLen) (hp : Pairs w a len A L C Z) :
    Calls Try.prog 14 #[.slice a len cap] w fun e w' => Tells e (Short len L) ∧ w' = w := by
  unfold maxLen at hl
  by_cases hbig : len ≤ 1048576
  · go_enter Try.func14, Try.ntmps14
    go_wp2
    go_loop [3, 4] (fun n i => ∃ k t : Nat, k ≤ len ∧ i = .int .i64 k ∧ n = .int .i64 t ∧ t ≤ 1048576 ∧ Short k L) (fun _ i => len - (intOf i).toNat)
    case atStart => exact ⟨0, len, Nat.zero_le _, rfl, by go_num, by omega, fun j hj => by omega⟩
    case round =>
      obtain ⟨k, t, hk, rfl, rfl, ht, hall⟩ := hrel
      by_cases hlt : k < len
      · rcases hp with h0 | ⟨b, off, rfl, hb, hc⟩
        · omega
        have hcell := (hc k hlt).1
        have hLk := hL k hlt
        unfold maxLen at hLk
        clear hc hL
        go_wp2
        · go_ret
          exact ⟨Tells.no _, rfl⟩
        · go_ret
          exact ⟨Tells.no _, rfl⟩
        · go_round
          case rel =>
            refine ⟨k + 1, t + L k, by omega, by go_num, by go_num, by omega, fun j hj => ?_⟩
            by_cases hjk : j = k
            · subst hjk; omega
            · exact hall j (by omega)
          case measure => simp [intOf]; omega
      · go_wp2
        go_ret
        exact ⟨Tells.yes (fun j hj => hall j (by omega)), rfl⟩
  · go_enter Try.func14, Try.ntmps14
    go_wp2
    go_ret
    exact ⟨Tells.no _, rfl⟩

set_option maxHeartbeats 400000 in
theorem bytes18 (a : Option Addr) (len cap : Nat) (A : Nat → Option Addr) (L C : Nat → Nat) (Z : Nat → List Int) (w : World) (hl : len ≤ maxLen) (hL : ∀ j, j < len → L j ≤ maxLen) (hp : Pairs w a len A L C Z) :
    Calls Try.prog 18 #[.slice a len cap] w fun e w' => Tells e (Short len L) ∧ w' = w := by
  unfold maxLen at hl
  by_cases hbig : len ≤ 1048576
  · go_enter Try.func18, Try.ntmps18
    go_wp2
    go_loop [3, 4] (fun n i => ∃ k t : Nat, k ≤ len ∧ i = .int .i64 k ∧ n = .int .i64 t ∧ t ≤ 1048576 ∧ Short k L) (fun _ i => len - (intOf i).toNat)
    case atStart => exact ⟨0, len, Nat.zero_le _, rfl, by go_num, by omega, fun j hj => by omega⟩
    case round =>
      obtain ⟨k, t, hk, rfl, rfl, ht, hall⟩ := hrel
      by_cases hlt : k < len
      · rcases hp with h0 | ⟨b, off, rfl, hb, hc⟩
        · omega
        have hcell := (hc k hlt).1
        have hLk := hL k hlt
        unfold maxLen at hLk
        clear hc hL
        go_wp2
        · go_ret
          exact ⟨Tells.no _, rfl⟩
        · go_ret
          exact ⟨Tells.no _, rfl⟩
        · go_round
          case rel =>
            refine ⟨k + 1, t + L k, by omega, by go_num, by go_num, by omega, fun j hj => ?_⟩
            by_cases hjk : j = k
            · subst hjk; omega
            · exact hall j (by omega)
          case measure => simp [intOf]; omega
      · go_wp2
        go_ret
        exact ⟨Tells.yes (fun j hj => hall j (by omega)), rfl⟩
  · go_enter Try.func18, Try.ntmps18
    go_wp2
    go_ret
    exact ⟨Tells.no _, rfl⟩

set_option maxHeartbeats 400000 in
theorem fit15 (a : Option Addr) (len cap : Nat) (A : Nat → Option Addr) (L C : Nat → Nat) (Z : Nat → List Int) (w : World) (hl : len ≤ 65536) (hL : Short len L) (hp : Pairs w a len A L C Z) :
    Calls Try.prog 15 #[.slice a len cap] w fun e w' => Tells e (Few len) ∧ w' = w := by
  by_cases hbig : 24 * len ≤ 1048576
  · go_enter Try.func15, Try.ntmps15
    go_wp2
    go_loop [3, 4] (fun n i => ∃ k t : Nat, k ≤ len ∧ i = .int .i64 k ∧ n = .int .i64 t ∧ t ≤ 1048576) (fun _ i => len - (intOf i).toNat)
    case atStart => exact ⟨0, 24 * len, Nat.zero_le _, rfl, by go_num, by omega⟩
    case round =>
      obtain ⟨k, t, hk, rfl, rfl, ht⟩ := hrel
      by_cases hlt : k < len
      · rcases hp with h0 | ⟨b, off, rfl, hb, hc⟩
        · omega
        have hcell := (hc k hlt).1
        have hLk := hL k hlt
        clear hc hL
        go_wp2
        · go_ret
          exact ⟨Tells.no _, rfl⟩
        · go_round
          case rel => exact ⟨k + 1, t + L k, by omega, by go_num, by go_num, by omega⟩
          case measure => simp [intOf]; omega
      · go_wp2
        go_ret
        exact ⟨Tells.yes hbig, rfl⟩
  · go_enter Try.func15, Try.ntmps15
    go_wp2
    go_ret
    exact ⟨Tells.no _, rfl⟩

end Go.Proofs.Qxb6001747a.Hdr
