import Derived.Test.Qxb6600165aGrpD
namespace Go.Proofs.Qxb6600165a.Grp
open Go.RowKit

theorem info59 : (Try.prog.info? 59).map (fun i => (i.zero, i.size, i.bytes)) = some (some (.agg (Array.replicate 16 (.int .u8 0))), 16, 16) := by kernel_rfl
theorem size34 : (Try.prog.info? 34).map (·.size) = some 16 := by kernel_rfl

theorem Below.setCells' {B : Nat} {w w' : World} (h : Below B w w') {b : Nat} (hb : B ≤ b) : ∀ (vs : List Value) (o : Nat), Below B w (w'.setCells b o vs) := by
  intro vs
  induction vs generalizing w' with
  | nil => intro o; exact h
  | cons v vs ih => intro o; exact ih (h.setCell (p := ⟨b, o, none⟩) hb v) (o + 1)

/-- Sixteen bytes of a list. -/
theorem Dirs.range {w : World} {b off n k : Nat} (hc : ∀ j, j < n * 16 → ∃ x : Int, w.cell? ⟨b, off + j, none⟩ = some (.int .u8 x)) (hk : k < n) :
    ∃ cs : List Value, cs.length = 16 ∧ (∀ v ∈ cs, v.oneCell' = true) ∧ w.rangeAt b (off + k * 16) cs := by
  have h : ∀ i : Fin 16, ∃ x : Int, w.cell? ⟨b, off + (k * 16 + i), none⟩ = some (.int .u8 x) := fun i => hc _ (by omega)
  refine ⟨List.ofFn fun i : Fin 16 => .int .u8 (h i).choose, by simp, ?_, ?_⟩
  · intro v hv
    obtain ⟨i, rfl⟩ := List.mem_ofFn.1 hv
    rfl
  · intro j v hv
    rw [List.getElem?_ofFn] at hv
    split at hv
    · cases hv
      rename_i hj
      rw [Nat.add_assoc]
      exact (h ⟨j, hj⟩).choose_spec
    · cases hv

set_option maxRecDepth 100000 in
set_option maxHeartbeats 4000000 in
theorem copy21 (a : Option Addr) (n c : Nat) (w : World) (hn : n ≤ 1048576) (hg : Dirs w a n) (ha : a = none → n = 0) :
    Calls Try.prog 21 #[.slice a n c] w fun e w' => MadeL w e w' := by
  have q51 : ∀ (w : World) (a : Option Addr) (n c n' c' : Nat), (binOp .eql 51 (.slice a n c) (.slice none n' c')).run Try.prog w = .ok (.bool a.isNone) w := fun w a n c n' c' => Lib.run_eql_slice_nil w _ _ a n c n' c' Try.underlying51
  obtain ⟨i59, hi59, hz0, hz1, hz2⟩ := info_parts info59
  cases a with
  | none =>
    have := ha rfl
    subst this
    go_enter Try.func21, Try.ntmps21
    go_wp2
    go_ret
    exact ⟨Below.refl _ _, _, _, _, rfl⟩
  | some x =>
    clear ha
    go_enter Try.func21, Try.ntmps21
    go_wp2_with (at_make; refine wpList_make_full _ rfl _ _ 37 rfl w.heap.size 59 i59 (.agg (Array.replicate 16 (.int .u8 0))) 16 Try.underlying37 hi59 hz0 hz1 _ _ _ _ n rfl rfl rfl rfl (by rw [hz2]; omega) (by unfold maxLen; omega) (Nat.le_refl _) ?_; intro w1 hown1 hgrow1)
    have hr1 : w1.there w.heap.size 0 (n * 16) := fun j hj => ⟨by rw [Nat.zero_add, hown1.cellAt j (by omega), List.getElem?_eq_getElem (by rw [hown1.1]; omega)]; rfl, by rw [Nat.zero_add]; exact hown1.frozenAt j⟩
    have hb1 : Below w.heap.size w w1 := (Below.refl _ _).grown hgrow1 (Nat.le_refl _) (by simp)
    clear hown1 hgrow1
    go_loopw [4] (fun i wr => ∃ k : Nat, k ≤ n ∧ i = .int .i64 k ∧ wr.there w.heap.size 0 (n * 16) ∧ Below w.heap.size w wr) (fun i _ => n - (intOf i).toNat)
    case atStart => exact ⟨0, Nat.zero_le _, rfl, hr1, hb1⟩
    case round =>
      clear hr1 hb1
      rename World => wo
      obtain ⟨k, hk, rfl, hrow, hbel⟩ := hrel
      by_cases hlt : k < n
      · rcases hg with h0 | ⟨b, off, hx, hb, hc⟩
        · omega
        simp at hx
        subst hx
        obtain ⟨cs, hcs, hone, hra0⟩ := Dirs.range hc hlt
        have hra : wo.rangeAt b (off + k * 16) cs := fun j v hv => (hbel.cell (p := ⟨b, off + k * 16 + j, none⟩) hb).trans (hra0 j v hv)
        have hth : wo.there w.heap.size (k * 16) 16 := fun j hj => by
          have := hrow (k * 16 + j) (by omega)
          rwa [Nat.zero_add] at this
        have hrow2 : (wo.setCells w.heap.size (k * 16) cs).there w.heap.size 0 (n * 16) := World.there_setCells hrow _ _ _
        have hbel2 : Below w.heap.size w (wo.setCells w.heap.size (k * 16) cs) := Below.setCells' hbel (Nat.le_refl _) _ _
        have hstc := run_storeCells_cells (P := Try.prog) w.heap.size (k * 16) cs 0 wo (fun j hj => by simpa using (hth j (by omega)).1) (fun j hj => by simpa using (hth j (by omega)).2) hone
        simp only [Nat.add_zero] at hstc
        clear hc hra0 hone hrow hbel
        go_wp2_with (refine wpList_load_mid (by rfl) 34 _ (by rfl) b (off + k * 16) (by rfl) cs _ hra Try.underlying34 (by rfl) (by rw [hcs]; exact size34) ?_)
        go_roundw
        case rel => exact ⟨k + 1, by omega, by go_num, hrow2, hbel2⟩
        case measure => simp [intOf]; omega
      · go_wp2
        go_ret
        exact ⟨hbel, _, _, _, rfl⟩

end Go.Proofs.Qxb6600165a.Grp
