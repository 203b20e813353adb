import Derived.Test.Qxb6600165aGrpB
namespace Go.Proofs.Qxb6600165a.Grp
open Go.RowKit

/-- A state that came in. -/
structure ZSt (w : World) (b o : Nat) (x0 x1 x2 x3 x4 x6 x7 x8 x10 : Int) (y5 y9 y11 y12 y13 : Bool) : Prop where
  lt : b < w.heap.size
  g0 : w.cell? ⟨b, o, none⟩ = some (.int .u64 x0)
  g1 : w.cell? ⟨b, o + 1, none⟩ = some (.int .u8 x1)
  g2 : w.cell? ⟨b, o + 2, none⟩ = some (.int .u64 x2)
  g3 : w.cell? ⟨b, o + 3, none⟩ = some (.int .u64 x3)
  g4 : w.cell? ⟨b, o + 4, none⟩ = some (.int .u32 x4)
  g5 : w.cell? ⟨b, o + 5, none⟩ = some (.bool y5)
  g6 : w.cell? ⟨b, o + 6, none⟩ = some (.int .u64 x6)
  g7 : w.cell? ⟨b, o + 7, none⟩ = some (.int .u64 x7)
  g8 : w.cell? ⟨b, o + 8, none⟩ = some (.int .u64 x8)
  g9 : w.cell? ⟨b, o + 9, none⟩ = some (.bool y9)
  g10 : w.cell? ⟨b, o + 10, none⟩ = some (.int .u64 x10)
  g11 : w.cell? ⟨b, o + 11, none⟩ = some (.bool y11)
  g12 : w.cell? ⟨b, o + 12, none⟩ = some (.bool y12)
  g13 : w.cell? ⟨b, o + 13, none⟩ = some (.bool y13)
  p2 : 0 ≤ x2
  p6 : 0 ≤ x6

set_option maxRecDepth 100000 in
set_option maxHeartbeats 4000000 in
theorem st18 (x0 x1 x2 x3 x4 x6 x7 x8 x10 : Int) (y5 y9 y11 y12 y13 : Bool) (w : World) :
    Calls Try.prog 18 #[.agg #[.int .u64 x0, .int .u8 x1, .int .u64 x2, .int .u64 x3, .int .u32 x4, .bool y5, .int .u64 x6, .int .u64 x7, .int .u64 x8, .bool y9, .int .u64 x10, .bool y11, .bool y12, .bool y13]] w fun e w' =>
      e = .returned (.agg #[.int .u64 x0, .int .u8 x1, .int .u64 x2, .int .u64 x3, .int .u32 x4, .bool y5, .int .u64 x6, .int .u64 x7, .int .u64 x8, .bool y9, .int .u64 x10, .bool y11, .bool y12, .bool y13]) ∧ Below w.heap.size w w' := by
  go_enter Try.func18, Try.ntmps18
  go_wp2
  exact bodyPost_ret (v := .agg #[.int .u64 x0, .int .u8 x1, .int .u64 x2, .int .u64 x3, .int .u32 x4, .bool y5, .int .u64 x6, .int .u64 x7, .int .u64 x8, .bool y9, .int .u64 x10, .bool y11, .bool y12, .bool y13]) (by simp [results, Try.results18, go_sem]) rfl ⟨rfl, ((Below.refl _ _).alloc (Nat.le_refl _) _).alloc (by simp) _⟩

theorem info41 : (Try.prog.info? 41).map (fun i => (i.zero, i.size, i.bytes)) = some (some (.pointer none), 1, 8) := by kernel_rfl

/-- A copied state: its accepted term and its flush. -/
structure IsSt (w : World) (s : Nat) (ac fl : Int) : Prop where
  lt : s < w.heap.size
  c2 : w.cell? ⟨s, 2, none⟩ = some (.int .u64 ac)
  c6 : w.cell? ⟨s, 6, none⟩ = some (.int .u64 fl)
  p2 : 0 ≤ ac
  p6 : 0 ≤ fl
theorem IsSt.below {w w' : World} {s : Nat} {ac fl : Int} (h : IsSt w s ac fl) (hb : Below w.heap.size w w') : IsSt w' s ac fl :=
  ⟨Nat.lt_of_lt_of_le h.lt hb.size, (hb.cell (p := ⟨s, 2, none⟩) h.lt).trans h.c2, (hb.cell (p := ⟨s, 6, none⟩) h.lt).trans h.c6, h.p2, h.p6⟩
theorem IsSt.set {w : World} {s : Nat} {ac fl : Int} (h : IsSt w s ac fl) {B j : Nat} (hB : s ≠ B) (u : Value) : IsSt (w.setCell ⟨B, j, none⟩ u) s ac fl :=
  ⟨by rw [World.size_setCell]; exact h.lt, by rw [World.cell?_setCell_other _ _ _ _ (by intro e; cases e; exact hB rfl)]; exact h.c2, by rw [World.cell?_setCell_other _ _ _ _ (by intro e; cases e; exact hB rfl)]; exact h.c6, h.p2, h.p6⟩

/-- An element of the copied states. -/
def SElem (w : World) (B : Nat) (v : Value) : Prop := ∃ p, v = .pointer p ∧ (p = none ∨ ∃ s ac fl, p = some ⟨s, 0, none⟩ ∧ s ≠ B ∧ IsSt w s ac fl)
theorem SElem.below {w w' : World} {B : Nat} {v : Value} (h : SElem w B v) (hb : Below w.heap.size w w') : SElem w' B v := by
  obtain ⟨p, rfl, h⟩ := h
  refine ⟨p, rfl, ?_⟩
  rcases h with h | ⟨s, ac, fl, h1, h2, h3⟩
  · exact .inl h
  · exact .inr ⟨s, ac, fl, h1, h2, h3.below hb⟩
theorem SElem.set {w : World} {B j : Nat} {u v : Value} (h : SElem w B v) : SElem (w.setCell ⟨B, j, none⟩ u) B v := by
  obtain ⟨p, rfl, h⟩ := h
  refine ⟨p, rfl, ?_⟩
  rcases h with h | ⟨s, ac, fl, h1, h2, h3⟩
  · exact .inl h
  · exact .inr ⟨s, ac, fl, h1, h2, h3.set h2 u⟩
/-- The copied states so far. -/
def SRow (B n : Nat) (w : World) : Prop := ∃ vs, w.ownsRow B 41 1 (.slice (some ⟨B, 0, none⟩) n n) n vs ∧ ∀ v ∈ vs, SElem w B v
theorem srow_made {B n : Nat} {w1 : World} (h : w1.ownsRow B 41 1 (.slice (some ⟨B, 0, none⟩) n n) n (madeCells (Value.pointer none).cells (n * 1)).toList) : SRow B n w1 := by
  refine ⟨_, h, fun v hv => ?_⟩
  have : v = .pointer none := by
    rw [show (Value.pointer none).cells = #[Value.pointer none] from rfl, toList_madeCells_one] at hv
    exact (List.mem_replicate.1 hv).2
  subst this
  exact ⟨none, rfl, .inl rfl⟩
theorem SRow.below {B n : Nat} {w w' : World} (h : SRow B n w) (hb : Below w.heap.size w w') : SRow B n w' := by
  obtain ⟨vs, h1, h2⟩ := h
  refine ⟨vs, ?_, fun v hv => (h2 v hv).below hb⟩
  have hlt := (h1.lt B rfl).2
  exact h1.kept (w' := w') (row := some w.heap.size) ⟨hb.os, hb.tape, hb.output, hb.size, fun k hk _ => hb.block k hk⟩ (.inr (by simp [Value.ownBlock]; omega))
theorem SRow.store {B n j : Nat} {w : World} (h : SRow B n w) {v : Value} (hv : SElem w B v) : SRow B n (w.setCell ⟨B, j, none⟩ v) := by
  obtain ⟨vs, h1, h2⟩ := h
  refine ⟨vs.set j v, (h1.stored j _).1, fun y hy => ?_⟩
  rcases List.mem_or_eq_of_mem_set hy with hy | rfl
  · exact (h2 y hy).set
  · exact hv.set

/-- The states that came in. -/
def ZSPtr (w : World) (p : Option Addr) : Prop := p = none ∨ ∃ b o x0 x1 x2 x3 x4 x6 x7 x8 x10 y5 y9 y11 y12 y13, p = some ⟨b, o, none⟩ ∧ ZSt w b o x0 x1 x2 x3 x4 x6 x7 x8 x10 y5 y9 y11 y12 y13
def ZStates (w : World) (a : Option Addr) (n : Nat) : Prop := n = 0 ∨ ∃ b off, a = some ⟨b, off, none⟩ ∧ b < w.heap.size ∧ ∀ j, j < n → ∃ p, w.cell? ⟨b, off + j, none⟩ = some (.pointer p) ∧ ZSPtr w p

/-- What zzStates leaves. -/
def MadeS (w : World) (n : Nat) (e : Ending) (w' : World) : Prop :=
  Below w.heap.size w w' ∧ ((e = .returned (.slice none 0 0) ∧ n = 0) ∨ (e = .returned (.slice (some ⟨w.heap.size, 0, none⟩) n n) ∧ SRow w.heap.size n w'))

set_option maxRecDepth 100000 in
set_option maxHeartbeats 4000000 in
theorem states9 (a : Option Addr) (n c : Nat) (w : World) (hn : n ≤ 65536) (hg : ZStates w a n) (ha : a = none → n = 0) :
    Calls Try.prog 9 #[.slice a n c] w fun e w' => MadeS w n e w' := by
  have q22 : ∀ (w : World) (a : Option Addr) (n c n' c' : Nat), (binOp .eql 22 (.slice a n c) (.slice none n' c')).run Try.prog w = .ok (.bool a.isNone) w := fun w a n c n' c' => Lib.run_eql_slice_nil w _ _ a n c n' c' Try.underlying22
  obtain ⟨i41, hi41, hz0, hz1, hz2⟩ := info_parts info41
  cases a with
  | none =>
    have := ha rfl
    subst this
    go_enter Try.func9, Try.ntmps9
    go_wp2
    go_ret
    exact ⟨Below.refl _ _, .inl ⟨rfl, rfl⟩⟩
  | some x =>
    clear ha
    go_enter Try.func9, Try.ntmps9
    go_wp2_with (at_make; refine wpList_make_full _ rfl _ _ 26 rfl w.heap.size 41 i41 (.pointer none) 1 Try.underlying26 hi41 hz0 hz1 _ _ _ _ n rfl rfl rfl rfl (by rw [hz2]; omega) (by unfold maxLen; omega) (Nat.le_refl _) ?_; intro w1 hown1 hgrow1)
    have hr1 := srow_made hown1
    have hb1 : Below w.heap.size w w1 := (Below.refl _ _).grown hgrow1 (Nat.le_refl _) (by simp)
    clear hown1 hgrow1
    go_loopw [4] (fun i wr => ∃ k : Nat, k ≤ n ∧ i = .int .i64 k ∧ SRow w.heap.size n wr ∧ Below w.heap.size w wr) (fun i _ => n - (intOf i).toNat)
    case atStart => exact ⟨0, Nat.zero_le _, rfl, hr1, hb1⟩
    case round =>
      clear hr1 hb1
      rename World => wo
      obtain ⟨k, hk, rfl, hrow, hbel⟩ := hrel
      by_cases hlt : k < n
      · rcases hg with h0 | ⟨b, off, hx, hb, hc⟩
        · omega
        simp at hx
        subst hx
        obtain ⟨p, hcell0, hp⟩ := hc k hlt
        have hcell := (hbel.cell (p := ⟨b, off + k, none⟩) hb).trans hcell0
        clear hc hcell0
        rcases hp with rfl | ⟨sb, so, x0, x1, x2, x3, x4, x6, x7, x8, x10, y5, y9, y11, y12, y13, rfl, hZ⟩
        · go_wp2
          go_roundw
          case rel => exact ⟨k + 1, by omega, by go_num, hrow, hbel⟩
          case measure => simp [intOf]; omega
        · have e0 := (hbel.cell (p := ⟨sb, so, none⟩) hZ.lt).trans hZ.g0
          have e1 := (hbel.cell (p := ⟨sb, so + 1, none⟩) hZ.lt).trans hZ.g1
          have e2 := (hbel.cell (p := ⟨sb, so + 2, none⟩) hZ.lt).trans hZ.g2
          have e3 := (hbel.cell (p := ⟨sb, so + 3, none⟩) hZ.lt).trans hZ.g3
          have e4 := (hbel.cell (p := ⟨sb, so + 4, none⟩) hZ.lt).trans hZ.g4
          have e5 := (hbel.cell (p := ⟨sb, so + 5, none⟩) hZ.lt).trans hZ.g5
          have e6 := (hbel.cell (p := ⟨sb, so + 6, none⟩) hZ.lt).trans hZ.g6
          have e7 := (hbel.cell (p := ⟨sb, so + 7, none⟩) hZ.lt).trans hZ.g7
          have e8 := (hbel.cell (p := ⟨sb, so + 8, none⟩) hZ.lt).trans hZ.g8
          have e9 := (hbel.cell (p := ⟨sb, so + 9, none⟩) hZ.lt).trans hZ.g9
          have e10 := (hbel.cell (p := ⟨sb, so + 10, none⟩) hZ.lt).trans hZ.g10
          have e11 := (hbel.cell (p := ⟨sb, so + 11, none⟩) hZ.lt).trans hZ.g11
          have e12 := (hbel.cell (p := ⟨sb, so + 12, none⟩) hZ.lt).trans hZ.g12
          have e13 := (hbel.cell (p := ⟨sb, so + 13, none⟩) hZ.lt).trans hZ.g13
          have p2 := hZ.p2
          have p6 := hZ.p6
          clear hZ
          go_wp2_with fail
          refine (st18 x0 x1 x2 x3 x4 x6 x7 x8 x10 y5 y9 y11 y12 y13 wo).mono ?_
          rintro e w2 ⟨rfl, hb2⟩
          have hrow2 := hrow.below hb2
          have hbel2 : Below w.heap.size w w2 := hbel.trans (hb2.mono hbel.size)
          clear e0 e1 e2 e3 e4 e5 e6 e7 e8 e9 e10 e11 e12 e13 hrow hbel hb2 hcell
          have hB2 : w.heap.size < w2.heap.size := by obtain ⟨vs, h1, _⟩ := hrow2; exact (h1.lt _ rfl).2
          obtain ⟨O, hO⟩ : ∃ O : Obj, O = .cells #[.int .u64 x0, .int .u8 x1, .int .u64 x2, .int .u64 x3, .int .u32 x4, .bool y5, .int .u64 x6, .int .u64 x7, .int .u64 x8, .bool y9, .int .u64 x10, .bool y11, .bool y12, .bool y13] 44 := ⟨_, rfl⟩
          have hrow3 : SRow w.heap.size n (w2.alloc O) := hrow2.below ((Below.refl _ _).alloc (Nat.le_refl _) _)
          have hbel3 : Below w.heap.size w (w2.alloc O) := hbel2.alloc hbel2.size _
          have hel : SElem (w2.alloc O) w.heap.size (.pointer (some ⟨w2.heap.size, 0, none⟩)) := ⟨_, rfl, .inr ⟨w2.heap.size, x2, x6, rfl, by omega, by simp, by subst hO; rw [World.cell?_alloc_at _ _ _ _ rfl]; rfl, by subst hO; rw [World.cell?_alloc_at _ _ _ _ rfl]; rfl, p2, p6⟩⟩
          have hst : ∃ v, (w2.alloc O).cell? ⟨w.heap.size, k, none⟩ = some v := by
            obtain ⟨vs, h1, _⟩ := hrow3
            exact ⟨_, by rw [h1.cellAt k (by omega)]; exact List.getElem?_eq_getElem (by rw [h1.1]; omega)⟩
          obtain ⟨v0, hst⟩ := hst
          have hfr : (w2.alloc O).frozen? ⟨w.heap.size, k, none⟩ = false := by
            obtain ⟨vs, h1, _⟩ := hrow3
            exact h1.frozenAt k
          have hrow4 := hrow3.store (j := k) hel
          have hbel4 := hbel3.setCell (p := ⟨w.heap.size, k, none⟩) (Nat.le_refl _) (.pointer (some ⟨w2.heap.size, 0, none⟩))
          rw [World.setCell_alloc_past _ _ _ _ hB2] at hrow4 hbel4
          subst hO
          clear hrow2 hbel2 hrow3 hbel3 hel
          go_wp2
          go_roundw
          case rel => exact ⟨k + 1, by omega, by go_num, hrow4, hbel4⟩
          case measure => simp [intOf]; omega
      · go_wp2
        go_ret
        exact ⟨hbel, .inr ⟨rfl, hrow⟩⟩

end Go.Proofs.Qxb6600165a.Grp
