import Derived.Test.Qxb6600165aGrpE
import Derived.Deep.RegionHeld3
namespace Go.Proofs.Qxb6600165a.Grp
open Go.RowKit

theorem info30 : (Try.prog.info? 30).map (fun i => (i.zero, i.size, i.bytes)) = some (some (.pointer none), 1, 8) := by kernel_rfl

/-- A copied group. -/
structure IsGrp (w : World) (g : Nat) (X : Nat → Int) (ch tm : Int) (ta : Option Addr) (tn tc : Nat) : Prop where
  lt : g < w.heap.size
  log : ∀ i, i < 16 → w.cell? ⟨g, i, none⟩ = some (.int .u8 (X i))
  to : w.cell? ⟨g, 17, none⟩ = some (.slice ta tn tc)
  chg : w.cell? ⟨g, 18, none⟩ = some (.int .u64 ch)
  trm : w.cell? ⟨g, 20, none⟩ = some (.int .u64 tm)
  p1 : 0 ≤ ch
  p2 : 0 ≤ tm
  blk : ∃ cs t, w.heap[g]? = some (.cells cs t (0, 0))
theorem IsGrp.below {w w' : World} {g : Nat} {X : Nat → Int} {ch tm : Int} {ta : Option Addr} {tn tc : Nat} (h : IsGrp w g X ch tm ta tn tc) (hb : Below w.heap.size w w') : IsGrp w' g X ch tm ta tn tc :=
  ⟨Nat.lt_of_lt_of_le h.lt hb.size, fun i hi => (hb.cell (p := ⟨g, i, none⟩) h.lt).trans (h.log i hi), (hb.cell (p := ⟨g, 17, none⟩) h.lt).trans h.to, (hb.cell (p := ⟨g, 18, none⟩) h.lt).trans h.chg, (hb.cell (p := ⟨g, 20, none⟩) h.lt).trans h.trm, h.p1, h.p2, by obtain ⟨cs, t, e⟩ := h.blk; exact ⟨cs, t, (hb.block g h.lt).trans e⟩⟩
theorem IsGrp.set {w : World} {g : Nat} {X : Nat → Int} {ch tm : Int} {ta : Option Addr} {tn tc : Nat} (h : IsGrp w g X ch tm ta tn tc) {B j : Nat} (hB : g ≠ B) (u : Value) : IsGrp (w.setCell ⟨B, j, none⟩ u) g X ch tm ta tn tc := by
  have hk : ∀ i, (w.setCell ⟨B, j, none⟩ u).cell? ⟨g, i, none⟩ = w.cell? ⟨g, i, none⟩ := fun i => World.cell?_setCell_other _ _ _ _ (by intro e; cases e; exact hB rfl)
  exact ⟨by rw [World.size_setCell]; exact h.lt, fun i hi => (hk i).trans (h.log i hi), (hk _).trans h.to, (hk _).trans h.chg, (hk _).trans h.trm, h.p1, h.p2, by obtain ⟨cs, t, e⟩ := h.blk; exact ⟨cs, t, (Below.heap_setCell w ⟨B, j, none⟩ u g hB).trans e⟩⟩

/-- An element of the copied groups. -/
def GElem (w : World) (B : Nat) (v : Value) : Prop := v = .pointer none ∨ ∃ g X ch tm ta tn tc, v = .pointer (some ⟨g, 0, none⟩) ∧ g ≠ B ∧ IsGrp w g X ch tm ta tn tc
theorem GElem.below {w w' : World} {B : Nat} {v : Value} (h : GElem w B v) (hb : Below w.heap.size w w') : GElem w' B v := by
  rcases h with h | ⟨g, X, ch, tm, ta, tn, tc, h1, h2, h3⟩
  · exact .inl h
  · exact .inr ⟨g, X, ch, tm, ta, tn, tc, h1, h2, h3.below hb⟩
theorem GElem.set {w : World} {B j : Nat} {u v : Value} (h : GElem w B v) : GElem (w.setCell ⟨B, j, none⟩ u) B v := by
  rcases h with h | ⟨g, X, ch, tm, ta, tn, tc, h1, h2, h3⟩
  · exact .inl h
  · exact .inr ⟨g, X, ch, tm, ta, tn, tc, h1, h2, h3.set h2 u⟩
/-- No two are one. -/
def Apart (vs : List Value) : Prop := ∀ (i j : Nat) (g : Addr), vs[i]? = some (Value.pointer (some g)) → vs[j]? = some (Value.pointer (some g)) → i = j
/-- The copied groups so far. -/
def GRow (B n : Nat) (w : World) : Prop := ∃ vs, w.ownsRow B 30 1 (.slice (some ⟨B, 0, none⟩) n n) n vs ∧ (∀ v ∈ vs, GElem w B v) ∧ Apart vs
theorem grow_made {B n : Nat} {w1 : World} (h : w1.ownsRow B 30 1 (.slice (some ⟨B, 0, none⟩) n n) n (madeCells (Value.pointer none).cells (n * 1)).toList) : GRow B n w1 := by
  have hv : ∀ v ∈ (madeCells (Value.pointer none).cells (n * 1)).toList, v = .pointer none := fun v hv => by
    rw [show (Value.pointer none).cells = #[Value.pointer none] from rfl, toList_madeCells_one] at hv
    exact (List.mem_replicate.1 hv).2
  refine ⟨_, h, fun v h => .inl (hv v h), fun i j g h1 _ => ?_⟩
  have := hv _ (List.mem_of_getElem? h1)
  simp at this
theorem GRow.below {B n : Nat} {w w' : World} (h : GRow B n w) (hb : Below w.heap.size w w') : GRow B n w' := by
  obtain ⟨vs, h1, h2, h3⟩ := h
  refine ⟨vs, ?_, fun v hv => (h2 v hv).below hb, h3⟩
  have hlt := (h1.lt B rfl).2
  exact h1.kept (w' := w') (row := some w.heap.size) ⟨hb.os, hb.tape, hb.output, hb.size, fun k hk _ => hb.block k hk⟩ (.inr (by simp [Value.ownBlock]; omega))
theorem GRow.store {B n j : Nat} {w : World} (h : GRow B n w) {O : Obj} (hv : GElem (w.alloc O) B (.pointer (some ⟨w.heap.size, 0, none⟩))) : GRow B n ((w.alloc O).setCell ⟨B, j, none⟩ (.pointer (some ⟨w.heap.size, 0, none⟩))) := by
  obtain ⟨vs, h1, h2, h3⟩ := h
  have hb : Below w.heap.size w (w.alloc O) := (Below.refl _ _).alloc (Nat.le_refl _) O
  have hnew : ∀ i : Nat, vs[i]? ≠ some (Value.pointer (some ⟨w.heap.size, 0, none⟩)) := fun i hi => by
    rcases h2 _ (List.mem_of_getElem? hi) with h | ⟨g, X, ch, tm, ta, tn, tc, e, _, hg⟩
    · cases h
    · cases e
      exact Nat.lt_irrefl _ hg.lt
  refine ⟨vs.set j _, ((h1.alloc O).stored j _).1, fun y hy => ?_, fun i k g hi hk => ?_⟩
  · rcases List.mem_or_eq_of_mem_set hy with hy | rfl
    · exact ((h2 y hy).below hb).set
    · exact hv.set
  · rw [List.getElem?_set] at hi hk
    split at hi
    · rename_i e1
      split at hk
      · rename_i e2
        rw [← e1, ← e2]
      · split at hi
        · cases hi
          exact absurd hk (hnew k)
        · cases hi
    · split at hk
      · split at hk
        · cases hk
          exact absurd hi (hnew i)
        · cases hk
      · exact h3 i k g hi hk

theorem Strs.below {w w' : World} {a : Option Addr} {n B : Nat} (h : Strs w a n) (hB : B = w.heap.size) (hb : Below B w w') : Strs w' a n := by
  subst hB
  rcases h with h | ⟨b, off, h1, h2, h3⟩
  · exact .inl h
  · refine .inr ⟨b, off, h1, Nat.lt_of_lt_of_le h2 hb.size, fun j hj => ?_⟩
    obtain ⟨s, h4, h5⟩ := h3 j hj
    exact ⟨s, (hb.cell (p := ⟨b, off + j, none⟩) h2).trans h4, h5⟩
theorem Dirs.below {w w' : World} {a : Option Addr} {n B : Nat} (h : Dirs w a n) (hB : B = w.heap.size) (hb : Below B w w') : Dirs w' a n := by
  subst hB
  rcases h with h | ⟨b, off, h1, h2, h3⟩
  · exact .inl h
  · refine .inr ⟨b, off, h1, Nat.lt_of_lt_of_le h2 hb.size, fun j hj => ?_⟩
    obtain ⟨s, h4⟩ := h3 j hj
    exact ⟨s, (hb.cell (p := ⟨b, off + j, none⟩) h2).trans h4⟩

/-- What zzGroups leaves. -/
def MadeG (w : World) (n : Nat) (e : Ending) (w' : World) : Prop :=
  Below w.heap.size w w' ∧ ((e = .returned (.slice none 0 0) ∧ n = 0) ∨ (e = .returned (.slice (some ⟨w.heap.size, 0, none⟩) n n) ∧ GRow w.heap.size n w'))

/-- The sixteen bytes of an identity. -/
def idCells (X : Nat → Int) : List Value := [.int .u8 (X 0), .int .u8 (X 1), .int .u8 (X 2), .int .u8 (X 3), .int .u8 (X 4), .int .u8 (X 5), .int .u8 (X 6), .int .u8 (X 7), .int .u8 (X 8), .int .u8 (X 9), .int .u8 (X 10), .int .u8 (X 11), .int .u8 (X 12), .int .u8 (X 13), .int .u8 (X 14), .int .u8 (X 15)]
theorem idCells_at (X : Nat → Int) (j : Nat) (v : Value) (h : (idCells X)[j]? = some v) : j < 16 ∧ v = .int .u8 (X j) := by
  have hj : j < 16 := by
    have := (List.getElem?_eq_some_iff.1 h).1
    simpa [idCells] using this
  refine ⟨hj, ?_⟩
  rcases j with _|_|_|_|_|_|_|_|_|_|_|_|_|_|_|_|j <;> first | (cases h; rfl) | omega

/-- A group's cells. -/
def grpCells (X : Nat → Int) (v1 v2 : Value) (ch : Int) (v3 : Value) (tm lt la : Int) : Array Value := #[.int .u8 (X 0), .int .u8 (X 1), .int .u8 (X 2), .int .u8 (X 3), .int .u8 (X 4), .int .u8 (X 5), .int .u8 (X 6), .int .u8 (X 7), .int .u8 (X 8), .int .u8 (X 9), .int .u8 (X 10), .int .u8 (X 11), .int .u8 (X 12), .int .u8 (X 13), .int .u8 (X 14), .int .u8 (X 15), v1, v2, .int .u64 ch, v3, .int .u64 tm, .int .u64 lt, .int .u64 la]
theorem isGrp_made (X : Nat → Int) (v1 v3 : Value) (ta : Option Addr) (tn tc : Nat) (ch tm lt la : Int) (w : World) (h1 : 0 ≤ ch) (h2 : 0 ≤ tm) : IsGrp (w.alloc (.cells (grpCells X v1 (.slice ta tn tc) ch v3 tm lt la) 39)) w.heap.size X ch tm ta tn tc := by
  refine ⟨by simp, fun i hi => ?_, ?_, ?_, ?_, h1, h2, _, _, heap_alloc_new w _⟩
  · rw [World.cell?_alloc_at _ _ _ _ rfl]
    rcases i with _|_|_|_|_|_|_|_|_|_|_|_|_|_|_|_|i <;> first | rfl | omega
  · rw [World.cell?_alloc_at _ _ _ _ rfl]; rfl
  · rw [World.cell?_alloc_at _ _ _ _ rfl]; rfl
  · rw [World.cell?_alloc_at _ _ _ _ rfl]; rfl

/-- What the storing of a copied group leaves. -/
theorem groups_step {w w3 : World} {n k : Nat} (hk : k < n) (hb : Below w.heap.size w w3) (hG : GRow w.heap.size n w3) (X : Nat → Int) (V1 V3 : Value) (ta : Option Addr) (tn tc : Nat) (ch tm lt la : Int) (h1 : 0 ≤ ch) (h2 : 0 ≤ tm) :
    Below w.heap.size w (w3.alloc (.cells #[.int .u8 (X 0), .int .u8 (X 1), .int .u8 (X 2), .int .u8 (X 3), .int .u8 (X 4), .int .u8 (X 5), .int .u8 (X 6), .int .u8 (X 7), .int .u8 (X 8), .int .u8 (X 9), .int .u8 (X 10), .int .u8 (X 11), .int .u8 (X 12), .int .u8 (X 13), .int .u8 (X 14), .int .u8 (X 15), V1, .slice ta tn tc, .int .u64 ch, V3, .int .u64 tm, .int .u64 lt, .int .u64 la] 39)) ∧ (∃ v0, (w3.alloc (.cells #[.int .u8 (X 0), .int .u8 (X 1), .int .u8 (X 2), .int .u8 (X 3), .int .u8 (X 4), .int .u8 (X 5), .int .u8 (X 6), .int .u8 (X 7), .int .u8 (X 8), .int .u8 (X 9), .int .u8 (X 10), .int .u8 (X 11), .int .u8 (X 12), .int .u8 (X 13), .int .u8 (X 14), .int .u8 (X 15), V1, .slice ta tn tc, .int .u64 ch, V3, .int .u64 tm, .int .u64 lt, .int .u64 la] 39)).cell? ⟨w.heap.size, k, none⟩ = some v0) ∧ (w3.alloc (.cells #[.int .u8 (X 0), .int .u8 (X 1), .int .u8 (X 2), .int .u8 (X 3), .int .u8 (X 4), .int .u8 (X 5), .int .u8 (X 6), .int .u8 (X 7), .int .u8 (X 8), .int .u8 (X 9), .int .u8 (X 10), .int .u8 (X 11), .int .u8 (X 12), .int .u8 (X 13), .int .u8 (X 14), .int .u8 (X 15), V1, .slice ta tn tc, .int .u64 ch, V3, .int .u64 tm, .int .u64 lt, .int .u64 la] 39)).frozen? ⟨w.heap.size, k, none⟩ = false ∧ Below w.heap.size w ((w3.alloc (.cells #[.int .u8 (X 0), .int .u8 (X 1), .int .u8 (X 2), .int .u8 (X 3), .int .u8 (X 4), .int .u8 (X 5), .int .u8 (X 6), .int .u8 (X 7), .int .u8 (X 8), .int .u8 (X 9), .int .u8 (X 10), .int .u8 (X 11), .int .u8 (X 12), .int .u8 (X 13), .int .u8 (X 14), .int .u8 (X 15), V1, .slice ta tn tc, .int .u64 ch, V3, .int .u64 tm, .int .u64 lt, .int .u64 la] 39)).setCell ⟨w.heap.size, k, none⟩ (.pointer (some ⟨w3.heap.size, 0, none⟩))) ∧ Hid (GRow w.heap.size n ((w3.alloc (.cells #[.int .u8 (X 0), .int .u8 (X 1), .int .u8 (X 2), .int .u8 (X 3), .int .u8 (X 4), .int .u8 (X 5), .int .u8 (X 6), .int .u8 (X 7), .int .u8 (X 8), .int .u8 (X 9), .int .u8 (X 10), .int .u8 (X 11), .int .u8 (X 12), .int .u8 (X 13), .int .u8 (X 14), .int .u8 (X 15), V1, .slice ta tn tc, .int .u64 ch, V3, .int .u64 tm, .int .u64 lt, .int .u64 la] 39)).setCell ⟨w.heap.size, k, none⟩ (.pointer (some ⟨w3.heap.size, 0, none⟩)))) := by
  have hi := isGrp_made X V1 V3 ta tn tc ch tm lt la w3 h1 h2
  unfold grpCells at hi
  generalize (Obj.cells #[Value.int .u8 (X 0), .int .u8 (X 1), .int .u8 (X 2), .int .u8 (X 3), .int .u8 (X 4), .int .u8 (X 5), .int .u8 (X 6), .int .u8 (X 7), .int .u8 (X 8), .int .u8 (X 9), .int .u8 (X 10), .int .u8 (X 11), .int .u8 (X 12), .int .u8 (X 13), .int .u8 (X 14), .int .u8 (X 15), V1, .slice ta tn tc, .int .u64 ch, V3, .int .u64 tm, .int .u64 lt, .int .u64 la] 39) = O at *
  have hB : w.heap.size < w3.heap.size := by obtain ⟨vs, h1, _⟩ := hG; exact (h1.lt _ rfl).2
  have hb4 : Below w.heap.size w (w3.alloc O) := hb.alloc hb.size _
  have hG4 : GRow w.heap.size n (w3.alloc O) := hG.below ((Below.refl _ _).alloc (Nat.le_refl _) _)
  have hG5 := hG.store (O := O) (j := k) (.inr ⟨_, X, ch, tm, ta, tn, tc, rfl, by omega, hi⟩)
  have hb5 := hb4.setCell (p := ⟨w.heap.size, k, none⟩) (Nat.le_refl _) (.pointer (some ⟨w3.heap.size, 0, none⟩))
  obtain ⟨vs, r1, _⟩ := hG4
  exact ⟨hb4, ⟨_, by rw [r1.cellAt k (by omega)]; exact List.getElem?_eq_getElem (by rw [r1.1]; omega)⟩, r1.frozenAt k, hb5, hG5⟩

set_option maxRecDepth 100000 in
set_option maxHeartbeats 8000000 in
theorem groups10 (a : Option Addr) (n c : Nat) (w : World) (hn : n ≤ 65536) (hg : SGroups w a n) (ha : a = none → n = 0) :
    Calls Try.prog 10 #[.slice a n c] w fun e w' => MadeG w n e w' := by
  have q23 : ∀ (w : World) (a : Option Addr) (n c n' c' : Nat), (binOp .eql 23 (.slice a n c) (.slice none n' c')).run Try.prog w = .ok (.bool a.isNone) w := fun w a n c n' c' => Lib.run_eql_slice_nil w _ _ a n c n' c' Try.underlying23
  obtain ⟨i30, hi30, hz0, hz1, hz2⟩ := info_parts info30
  cases a with
  | none =>
    have := ha rfl
    subst this
    go_enter Try.func10, Try.ntmps10
    go_wp2
    go_ret
    exact ⟨Below.refl _ _, .inl ⟨rfl, rfl⟩⟩
  | some x =>
    clear ha
    go_enter Try.func10, Try.ntmps10
    go_wp2_with (at_make; refine wpList_make_full _ rfl _ _ 28 rfl w.heap.size 30 i30 (.pointer none) 1 Try.underlying28 hi30 hz0 hz1 _ _ _ _ n rfl rfl rfl rfl (by rw [hz2]; omega) (by unfold maxLen; omega) (Nat.le_refl _) ?_; intro w1 hown1 hgrow1)
    have hr1 := grow_made hown1
    have hb1 : Below w.heap.size w w1 := (Below.refl _ _).grown hgrow1 (Nat.le_refl _) (by simp)
    clear hown1 hgrow1
    go_loopw [4] (fun i wr => ∃ k : Nat, k ≤ n ∧ i = .int .i64 k ∧ GRow w.heap.size n wr ∧ Below w.heap.size w wr) (fun i _ => n - (intOf i).toNat)
    case atStart => exact ⟨0, Nat.zero_le _, rfl, hr1, hb1⟩
    case round =>
      clear hr1 hb1
      rename World => wo
      obtain ⟨k, hk, rfl, hrow, hbel⟩ := hrel
      by_cases hlt : k < n
      · rcases hg with h0 | ⟨b, off, hx, hb, hc⟩
        · omega
        simp at hx
        subst hx
        obtain ⟨p, hcell0, hp⟩ := hc k hlt
        have hcell := (hbel.cell (p := ⟨b, off + k, none⟩) hb).trans hcell0
        clear hc hcell0
        rcases hp with rfl | ⟨gb, go, A1, A2, A3, n1, c1, n2, c2, n3, c3, rfl, hZ, m1, m2, m3⟩
        · go_wp2
          go_roundw
          case rel => exact ⟨k + 1, by omega, by go_num, hrow, hbel⟩
          case measure => simp [intOf]; omega
        · obtain ⟨X, hX⟩ : ∃ X : Nat → Int, ∀ i, i < 16 → w.cell? ⟨gb, go + i, none⟩ = some (.int .u8 (X i)) := by
            have h : ∀ i, ∃ x : Int, i < 16 → w.cell? ⟨gb, go + i, none⟩ = some (.int .u8 x) := fun i => by
              by_cases hi : i < 16
              · obtain ⟨x, hx⟩ := hZ.log i hi
                exact ⟨x, fun _ => hx⟩
              · exact ⟨0, fun h => absurd h hi⟩
            exact ⟨fun i => (h i).choose, fun i hi => (h i).choose_spec hi⟩
          obtain ⟨ch, hch, pch⟩ := hZ.f3
          obtain ⟨tm, htm, ptm⟩ := hZ.f5
          obtain ⟨lt, hlt5⟩ := hZ.f6
          obtain ⟨la, hla⟩ := hZ.f7
          have Hkeep : Hid (∀ W, Below w.heap.size w W → W.rangeAt gb go [.int .u8 (X 0), .int .u8 (X 1), .int .u8 (X 2), .int .u8 (X 3), .int .u8 (X 4), .int .u8 (X 5), .int .u8 (X 6), .int .u8 (X 7), .int .u8 (X 8), .int .u8 (X 9), .int .u8 (X 10), .int .u8 (X 11), .int .u8 (X 12), .int .u8 (X 13), .int .u8 (X 14), .int .u8 (X 15)] ∧ W.cell? ⟨gb, go + 16, none⟩ = some (.slice A1 n1 c1) ∧ W.cell? ⟨gb, go + 17, none⟩ = some (.slice A2 n2 c2) ∧ W.cell? ⟨gb, go + 18, none⟩ = some (.int .u64 ch) ∧ W.cell? ⟨gb, go + 19, none⟩ = some (.slice A3 n3 c3) ∧ W.cell? ⟨gb, go + 20, none⟩ = some (.int .u64 tm) ∧ W.cell? ⟨gb, go + 21, none⟩ = some (.int .u64 lt) ∧ W.cell? ⟨gb, go + 22, none⟩ = some (.int .u64 la)) := fun W hW =>
            ⟨fun j v hv => by
              obtain ⟨hj, rfl⟩ := idCells_at X j v hv
              exact (hW.cell (p := ⟨gb, go + j, none⟩) hZ.lt).trans (hX j hj),
            (hW.cell (p := ⟨gb, go + 16, none⟩) hZ.lt).trans hZ.f1, (hW.cell (p := ⟨gb, go + 17, none⟩) hZ.lt).trans hZ.f2, (hW.cell (p := ⟨gb, go + 18, none⟩) hZ.lt).trans hch, (hW.cell (p := ⟨gb, go + 19, none⟩) hZ.lt).trans hZ.f4, (hW.cell (p := ⟨gb, go + 20, none⟩) hZ.lt).trans htm, (hW.cell (p := ⟨gb, go + 21, none⟩) hZ.lt).trans hlt5, (hW.cell (p := ⟨gb, go + 22, none⟩) hZ.lt).trans hla⟩
          have hs1 : Hid (∀ W, Below w.heap.size w W → Strs W A1 n1) := fun W hW => hZ.s1.below rfl hW
          have hs2 : Hid (∀ W, Below w.heap.size w W → Strs W A2 n2) := fun W hW => hZ.s2.below rfl hW
          have hs3 : Hid (∀ W, Below w.heap.size w W → Dirs W A3 n3) := fun W hW => hZ.s4.below rfl hW
          have he1 := hZ.e1
          have he2 := hZ.e2
          have he3 := hZ.e3
          have hu34 := Try.underlying34
          have hsz34 : (Try.prog.info? 34).map (·.size) = some ([Value.int .u8 (X 0), .int .u8 (X 1), .int .u8 (X 2), .int .u8 (X 3), .int .u8 (X 4), .int .u8 (X 5), .int .u8 (X 6), .int .u8 (X 7), .int .u8 (X 8), .int .u8 (X 9), .int .u8 (X 10), .int .u8 (X 11), .int .u8 (X 12), .int .u8 (X 13), .int .u8 (X 14), .int .u8 (X 15)]).length := size34
          have HG : Hid (GRow w.heap.size n wo.drew) := hrow.below (Below.refl _ _).drew
          clear hZ hX hch htm hlt5 hla
          go_wp2_with fail
          go_region_held3 (fun w' => w'.rangeAt gb go [.int .u8 (X 0), .int .u8 (X 1), .int .u8 (X 2), .int .u8 (X 3), .int .u8 (X 4), .int .u8 (X 5), .int .u8 (X 6), .int .u8 (X 7), .int .u8 (X 8), .int .u8 (X 9), .int .u8 (X 10), .int .u8 (X 11), .int .u8 (X 12), .int .u8 (X 13), .int .u8 (X 14), .int .u8 (X 15)] ∧ w'.cell? ⟨gb, go + 16, none⟩ = some (.slice A1 n1 c1) ∧ w'.cell? ⟨gb, go + 17, none⟩ = some (.slice A2 n2 c2) ∧ w'.cell? ⟨gb, go + 18, none⟩ = some (.int .u64 ch) ∧ w'.cell? ⟨gb, go + 19, none⟩ = some (.slice A3 n3 c3) ∧ w'.cell? ⟨gb, go + 20, none⟩ = some (.int .u64 tm) ∧ w'.cell? ⟨gb, go + 21, none⟩ = some (.int .u64 lt) ∧ w'.cell? ⟨gb, go + 22, none⟩ = some (.int .u64 la))
            (first | exact Hkeep.out _ hbel.drew | exact Hkeep.out _ hbel1 | exact Hkeep.out _ hbel2 | exact Hkeep.out _ hbel3 | exact Hkeep.out _ hbel4 | exact Hkeep.out _ hbel5)
            (first
              | (go_at_call 20; have hz := hbel1; clear hz; refine (copy20 A2 n2 c2 _ m2 (hs2.out _ hbel1) he2).mono ?_; rintro e w2 ⟨hb2, a2, k2, d2, rfl⟩; have hbel2 : Below w.heap.size w w2 := hbel1.trans (hb2.mono hbel1.size); have HG2 : Hid (GRow w.heap.size n w2) := HG1.out.below hb2; clear hb2)
              | (go_at_call 20; refine (copy20 A1 n1 c1 _ m1 (hs1.out _ hbel.drew) he1).mono ?_; rintro e w1 ⟨hb1, a1, k1, d1, rfl⟩; have hbel1 : Below w.heap.size w w1 := hbel.drew.trans (hb1.mono hbel.drew.size); have HG1 : Hid (GRow w.heap.size n w1) := HG.out.below hb1; clear hb1)
              | (go_at_call 21; refine (copy21 A3 n3 c3 _ m3 (hs3.out _ hbel2) he3).mono ?_; rintro e w3 ⟨hb3, a3, k3, d3, rfl⟩; have hbel3 : Below w.heap.size w w3 := hbel2.trans (hb3.mono hbel2.size); have HG3 : Hid (GRow w.heap.size n w3) := HG2.out.below hb3; clear hb3; obtain ⟨hbel4, ⟨v0, hst⟩, hfr, hbel5, HG5⟩ := groups_step hlt hbel3 HG3.out X (.slice a1 k1 d1) (.slice a3 k3 d3) a2 k2 d2 ch tm lt la pch ptm))
          go_wp2
          go_roundw
          case rel => exact ⟨k + 1, by omega, by go_num, HG5.out, hbel5⟩
          case measure => simp [intOf]; omega
      · go_wp2
        go_ret
        exact ⟨hbel, .inr ⟨rfl, hrow⟩⟩

end Go.Proofs.Qxb6600165a.Grp
