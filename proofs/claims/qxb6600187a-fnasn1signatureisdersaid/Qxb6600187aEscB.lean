import Derived.Test.Qxb6600187aRows
import Derived.Test.Qxb6600187aEscA
import Derived.WalkKit
import Derived.ProofKit
import Derived.OpenShut
import Derived.Below
import Derived.WalkLawsBesides
import Derived.WalkSpells
namespace Go.Proofs.Qxb6600187a.Esc
open Go.RowKit

/-- It returns a bool; and where that is true, p. -/
def Tells (e : Ending) (p : Prop) : Prop := ∃ r : Bool, e = .returned (.bool r) ∧ (r = true → p)
theorem Tells.no (p : Prop) : Tells (.returned (.bool false)) p := ⟨false, rfl, by simp⟩
theorem Tells.yes {p : Prop} (h : p) : Tells (.returned (.bool true)) p := ⟨true, rfl, fun _ => h⟩
def Short (n : Nat) : Prop := n ≤ 1048576

/-- n bytes from offset off of block b on read as zs. -/
def Row (w : World) (b off n : Nat) (zs : List Int) : Prop := zs.length = n ∧ (∀ z ∈ zs, 0 ≤ z ∧ z ≤ 255) ∧ ∀ j, j < n → w.cell? ⟨b, off + j, none⟩ = some (.int .u8 (zs.getD j 0))

theorem Row.below {w w' : World} {b off n : Nat} {zs : List Int} {B : Nat} (h : Row w b off n zs) (hb : Below B w w') (hlt : b < B) : Row w' b off n zs :=
  ⟨h.1, h.2.1, fun j hj => (hb.cell (p := ⟨b, off + j, none⟩) hlt).trans (h.2.2 j hj)⟩
theorem Row.drop {w : World} {b off n : Nat} {zs : List Int} (h : Row w b off n zs) (i : Nat) : Row w b (off + i) (n - i) (zs.drop i) :=
  ⟨by simp [h.1], fun z hz => h.2.1 z (List.mem_of_mem_drop hz), fun j hj => by rw [getD_drop, Nat.add_assoc]; exact h.2.2 (i + j) (by omega)⟩
theorem Row.take {w : World} {b off n : Nat} {zs : List Int} (h : Row w b off n zs) {e : Nat} (he : e ≤ n) : Row w b off e (zs.take e) :=
  ⟨by simp [h.1]; omega, fun z hz => h.2.1 z (List.mem_of_mem_take hz), fun j hj => by rw [getD_take _ _ _ hj]; exact h.2.2 j (by omega)⟩

theorem info5 : (Try.prog.info? 5).map (fun i => (i.zero, i.size, i.bytes)) = some (some (.int .u8 0), 1, 1) := by kernel_rfl

set_option maxHeartbeats 400000 in
theorem bytes13 (a : Option Addr) (n c : Nat) (x y : Int) (w : World) (hl : n ≤ maxLen) : Calls Try.prog 13 #[.slice a n c, .int .i64 x, .int .u8 y] w fun e w' => Tells e (Short n) ∧ w = w' := by
  unfold maxLen at hl
  by_cases h : n ≤ 1048576
  · go_enter Try.func13, Try.ntmps13
    go_wp2
    go_ret
    exact ⟨Tells.yes h, rfl⟩
  · go_enter Try.func13, Try.ntmps13
    go_wp2
    go_ret
    exact ⟨Tells.no _, rfl⟩

set_option maxHeartbeats 400000 in
theorem bytes6 (a : Option Addr) (n c : Nat) (w : World) (hl : n ≤ maxLen) : Calls Try.prog 6 #[.slice a n c] w fun e w' => Tells e (Short n) ∧ w = w' := by
  unfold maxLen at hl
  by_cases h : n ≤ 1048576
  · go_enter Try.func6, Try.ntmps6
    go_wp2
    go_ret
    exact ⟨Tells.yes h, rfl⟩
  · go_enter Try.func6, Try.ntmps6
    go_wp2
    go_ret
    exact ⟨Tells.no _, rfl⟩

/-- The bytes so far. -/
def Filling (g n : Nat) (wr : World) : Prop := ∃ zs : List Int, zs.length = n ∧ (∀ z ∈ zs, 0 ≤ z ∧ z ≤ 255) ∧ wr.ownsRow g 5 1 (.slice (some ⟨g, 0, none⟩) n n) n (zs.map (Value.int .u8))
theorem filling_made {g n : Nat} {w1 : World} (h : w1.ownsRow g 5 1 (.slice (some ⟨g, 0, none⟩) n n) n (madeCells (Value.int .u8 0).cells (n * 1)).toList) : Filling g n w1 := by
  refine ⟨List.replicate n 0, by simp, fun z hz => ?_, ?_⟩
  · have := (List.mem_replicate.1 hz).2
    omega
  · rw [show (Value.int .u8 0).cells = #[Value.int .u8 0] from rfl, toList_madeCells_one, Nat.mul_one] at h
    simpa using h
theorem Filling.store {g n j : Nat} {wr : World} (h : Filling g n wr) {z : Int} (hz : 0 ≤ z ∧ z ≤ 255) : Filling g n (wr.setCell ⟨g, j, none⟩ (.int .u8 z)) := by
  obtain ⟨zs, h1, h2, h3⟩ := h
  refine ⟨zs.set j z, by simpa using h1, fun y hy => ?_, ?_⟩
  · rcases List.mem_or_eq_of_mem_set hy with hy | rfl
    · exact h2 y hy
    · exact hz
  · rw [List.map_set]
    exact (h3.stored j _).1
theorem row_of {g n : Nat} {w : World} {zs : List Int} {base : Nat} (h1 : zs.length = n) (h2 : ∀ z ∈ zs, 0 ≤ z ∧ z ≤ 255) (h3 : w.ownsRow base 5 1 (.slice (some ⟨g, 0, none⟩) n n) n (zs.map (Value.int .u8))) : Row w g 0 n zs :=
  ⟨h1, h2, fun j hj => by
    rw [Nat.zero_add, h3.cellAt j (by omega)]
    simp [List.getElem?_eq_getElem (show j < zs.length by omega)]⟩

/-- What the copy leaves. -/
def Copied (w : World) (n : Nat) (e : Ending) (w' : World) : Prop :=
  e = .returned (.slice (some ⟨w.heap.size, 0, none⟩) n n) ∧ Below w.heap.size w w' ∧ w.heap.size < w'.heap.size ∧ ∃ zs, Row w' w.heap.size 0 n zs

set_option maxHeartbeats 1000000 in
theorem copy7 (b off n c : Nat) (zs : List Int) (w : World) (hn : n ≤ 1048576) (hr : Row w b off n zs) (hb : b < w.heap.size) :
    Calls Try.prog 7 #[.slice (some ⟨b, off, none⟩) n c] w fun e w' => Copied w n e w' := by
  have q22 : ∀ (w : World) (a : Option Addr) (n c n' c' : Nat), (binOp .eql 22 (.slice a n c) (.slice none n' c')).run Try.prog w = .ok (.bool a.isNone) w := fun w a n c n' c' => Lib.run_eql_slice_nil w _ _ a n c n' c' Try.underlying22
  obtain ⟨i5, hi5, hz50, hz51, hz52⟩ := info_parts info5
  obtain ⟨zl, zb, hc⟩ := hr
  go_enter Try.func7, Try.ntmps7
  go_wp2_with (at_make; refine wpList_make_full _ rfl _ _ 22 rfl w.heap.size 5 i5 (.int .u8 0) 1 Try.underlying22 hi5 hz50 hz51 _ _ _ _ n rfl rfl rfl rfl (by rw [hz52]; omega) (by unfold maxLen; omega) (Nat.le_refl _) ?_; intro w1 hown1 hgrow1)
  have hfil1 := filling_made hown1
  have hbel1 : Below w.heap.size w w1 := (Below.refl _ _).grown hgrow1 (Nat.le_refl _) (by simp)
  clear hown1 hgrow1
  go_loopw [4] (fun i wr => ∃ k : Nat, k ≤ n ∧ i = .int .i64 k ∧ Filling w.heap.size n wr ∧ Below w.heap.size w wr) (fun i _ => n - (intOf i).toNat)
  case atStart => exact ⟨0, Nat.zero_le _, rfl, hfil1, hbel1⟩
  case round =>
    clear hfil1 hbel1
    obtain ⟨k, hk, rfl, hfil, hbel⟩ := hrel
    by_cases hlt : k < n
    · have hbyte := (hbel.cell (p := ⟨b, off + k, none⟩) hb).trans (hc k hlt)
      have hzm : 0 ≤ zs.getD k 0 ∧ zs.getD k 0 ≤ 255 := zb _ (by simp [List.getD, List.getElem?_eq_getElem (show k < zs.length by omega)])
      have hst : ∃ v, wr.cell? ⟨w.heap.size, k, none⟩ = some v := by
        obtain ⟨ys, h1, h2, h3⟩ := hfil
        exact ⟨_, by rw [h3.cellAt k (by omega)]; exact List.getElem?_eq_getElem (by simp; omega)⟩
      obtain ⟨v0, hst⟩ := hst
      have hfr : wr.frozen? ⟨w.heap.size, k, none⟩ = false := by
        obtain ⟨ys, h1, h2, h3⟩ := hfil
        exact h3.frozenAt k
      have hfil3 := hfil.store (j := k) hzm
      have hbl3 := hbel.setCell (p := ⟨w.heap.size, k, none⟩) (Nat.le_refl _) (.int .u8 (zs.getD k 0))
      clear hc zb zl
      go_wp2
      go_roundw
      case rel => exact ⟨k + 1, by omega, by go_num, by simpa using hfil3, by simpa using hbl3⟩
      case measure => simp [intOf]; omega
    · go_wp2
      go_ret
      obtain ⟨ys, h1, h2, h3⟩ := hfil
      exact ⟨rfl, hbel, (h3.lt _ rfl).2, ys, row_of h1 h2 h3⟩

theorem ret_bool {a b : Bool} (h : a = b) : Ending.returned (.bool a) = .returned (.bool b) := by rw [h]

set_option maxHeartbeats 1000000 in
theorem hex17 (x : Int) (w : World) : Calls Try.prog 17 #[.int .u8 x] w fun e w' => e = .returned (.bool (hx x)) ∧ w = w' := by
  by_cases h1 : 48 ≤ x
  · by_cases h2 : x ≤ 57
    · go_enter Try.func17, Try.ntmps17
      go_wp2
      go_ret
      exact ⟨ret_bool (by rw [Bool.eq_iff_iff]; simp [hx]; omega), rfl⟩
    · by_cases h3 : 97 ≤ x
      · by_cases h4 : x ≤ 102
        · go_enter Try.func17, Try.ntmps17
          go_wp2
          go_ret
          exact ⟨ret_bool (by rw [Bool.eq_iff_iff]; simp [hx]; omega), rfl⟩
        · go_enter Try.func17, Try.ntmps17
          go_wp2
          all_goals (go_ret; exact ⟨ret_bool (by rw [Bool.eq_iff_iff]; simp [hx]; omega), rfl⟩)
      · go_enter Try.func17, Try.ntmps17
        go_wp2
        all_goals (go_ret; exact ⟨ret_bool (by rw [Bool.eq_iff_iff]; simp [hx]; omega), rfl⟩)
  · go_enter Try.func17, Try.ntmps17
    go_wp2
    all_goals (go_ret; exact ⟨ret_bool (by rw [Bool.eq_iff_iff]; simp [hx]; omega), rfl⟩)

end Go.Proofs.Qxb6600187a.Esc
