import Derived.Test.Qxb6600165aGrpC
namespace Go.Proofs.Qxb6600165a.Grp
open Go.RowKit

theorem info9 : (Try.prog.info? 9).map (fun i => (i.zero, i.size, i.bytes)) = some (some (.string ByteArray.empty), 1, 16) := by kernel_rfl

/-- What a copy leaves. -/
def MadeL (w : World) (e : Ending) (w' : World) : Prop := Below w.heap.size w w' ∧ ∃ a n c, e = .returned (.slice a n c)
/-- A row of n strings. -/
def TRow (B n : Nat) (w : World) : Prop := ∃ vs, w.ownsRow B 9 1 (.slice (some ⟨B, 0, none⟩) n n) n vs

set_option maxRecDepth 100000 in
set_option maxHeartbeats 4000000 in
theorem copy20 (a : Option Addr) (n c : Nat) (w : World) (hn : n ≤ 1048576) (hg : Strs w a n) (ha : a = none → n = 0) :
    Calls Try.prog 20 #[.slice a n c] w fun e w' => MadeL w e w' := by
  have q36 : ∀ (w : World) (a : Option Addr) (n c n' c' : Nat), (binOp .eql 36 (.slice a n c) (.slice none n' c')).run Try.prog w = .ok (.bool a.isNone) w := fun w a n c n' c' => Lib.run_eql_slice_nil w _ _ a n c n' c' Try.underlying36
  obtain ⟨i9, hi9, hz0, hz1, hz2⟩ := info_parts info9
  cases a with
  | none =>
    have := ha rfl
    subst this
    go_enter Try.func20, Try.ntmps20
    go_wp2
    go_ret
    exact ⟨Below.refl _ _, _, _, _, rfl⟩
  | some x =>
    clear ha
    go_enter Try.func20, Try.ntmps20
    go_wp2_with (at_make; refine wpList_make_full _ rfl _ _ 36 rfl w.heap.size 9 i9 (.string ByteArray.empty) 1 Try.underlying36 hi9 hz0 hz1 _ _ _ _ n rfl rfl rfl rfl (by rw [hz2]; omega) (by unfold maxLen; omega) (Nat.le_refl _) ?_; intro w1 hown1 hgrow1)
    have hr1 : TRow w.heap.size n w1 := ⟨_, hown1⟩
    have hb1 : Below w.heap.size w w1 := (Below.refl _ _).grown hgrow1 (Nat.le_refl _) (by simp)
    clear hown1 hgrow1
    go_loopw [4] (fun i wr => ∃ k : Nat, k ≤ n ∧ i = .int .i64 k ∧ TRow w.heap.size n wr ∧ Below w.heap.size w wr) (fun i _ => n - (intOf i).toNat)
    case atStart => exact ⟨0, Nat.zero_le _, rfl, hr1, hb1⟩
    case round =>
      clear hr1 hb1
      rename World => wo
      obtain ⟨k, hk, rfl, ⟨vs, hrow⟩, hbel⟩ := hrel
      by_cases hlt : k < n
      · rcases hg with h0 | ⟨b, off, hx, hb, hc⟩
        · omega
        simp at hx
        subst hx
        obtain ⟨s, hcell0, hs⟩ := hc k hlt
        have hcell := (hbel.cell (p := ⟨b, off + k, none⟩) hb).trans hcell0
        clear hc hcell0
        have hst : ∃ v, wo.cell? ⟨w.heap.size, k, none⟩ = some v := ⟨_, by rw [hrow.cellAt k (by omega)]; exact List.getElem?_eq_getElem (by rw [hrow.1]; omega)⟩
        obtain ⟨v0, hst⟩ := hst
        have hfr : wo.frozen? ⟨w.heap.size, k, none⟩ = false := hrow.frozenAt k
        have hrow2 : TRow w.heap.size n (wo.setCell ⟨w.heap.size, k, none⟩ (.string s)) := ⟨_, (hrow.stored k _).1⟩
        have hbel2 := hbel.setCell (p := ⟨w.heap.size, k, none⟩) (Nat.le_refl _) (.string s)
        clear hrow hbel
        go_wp2
        go_roundw
        case rel => exact ⟨k + 1, by omega, by go_num, hrow2, hbel2⟩
        case measure => simp [intOf]; omega
      · go_wp2
        go_ret
        exact ⟨hbel, _, _, _, rfl⟩

end Go.Proofs.Qxb6600165a.Grp
