import Derived.Test.Qxb6001747aHdrA
namespace Go.Proofs.Qxb6001747a.Hdr
open Go.RowKit

theorem info5 : (Try.prog.info? 5).map (fun i => (i.zero, i.size, i.bytes)) = some (some (.int .u8 0), 1, 1) := by kernel_rfl
theorem info28 : (Try.prog.info? 28).map (fun i => (i.zero, i.size, i.bytes)) = some (some (.slice none 0 0), 1, 24) := by kernel_rfl

theorem Bytes.below {w w' : World} {a : Option Addr} {n : Nat} {zs : List Int} (h : Bytes w a n zs) (hb : Below w.heap.size w w') : Bytes w' a n zs := by
  obtain ⟨h1, h2, h3⟩ := h
  refine ⟨h1, h2, ?_⟩
  rcases h3 with h3 | ⟨b, off, rfl, hlt, hc⟩
  · exact .inl h3
  · exact .inr ⟨b, off, rfl, Nat.lt_of_lt_of_le hlt hb.size, fun j hj => (hb.cell (p := ⟨b, off + j, none⟩) hlt).trans (hc j hj)⟩

/-- An element of the copy: a slice of bytes that does not lie in block B. -/
def Elem (w : World) (B : Nat) (v : Value) : Prop := ∃ a n c zs, v = .slice a n c ∧ n ≤ 1048576 ∧ Bytes w a n zs ∧ ∀ x, a = some x → x.block ≠ B

theorem Elem.below {w w' : World} {B : Nat} {v : Value} (h : Elem w B v) (hb : Below w.heap.size w w') : Elem w' B v := by
  obtain ⟨a, n, c, zs, rfl, h1, h2, h3⟩ := h
  exact ⟨a, n, c, zs, rfl, h1, h2.below hb, h3⟩

theorem Elem.setB {w : World} {B j : Nat} {u v : Value} (h : Elem w B v) : Elem (w.setCell ⟨B, j, none⟩ u) B v := by
  obtain ⟨a, n, c, zs, rfl, h1, ⟨h2, h4, h5⟩, h3⟩ := h
  refine ⟨a, n, c, zs, rfl, h1, ⟨h2, h4, ?_⟩, h3⟩
  rcases h5 with h5 | ⟨b, off, rfl, hlt, hc⟩
  · exact .inl h5
  · refine .inr ⟨b, off, rfl, by simpa using hlt, fun j hj => ?_⟩
    rw [World.cell?_setCell_other]
    · exact hc j hj
    · intro e
      have := h3 _ rfl
      simp at e
      simp at this
      omega

theorem Elem.nil (w : World) (B : Nat) : Elem w B (.slice none 0 0) := ⟨none, 0, 0, [], rfl, by omega, ⟨rfl, by simp, .inl rfl⟩, by simp⟩

theorem elem_row {w : World} {B g n : Nat} {zs : List Int} (hB : B ≠ g) (hn : n ≤ 1048576) (hz : zs.length = n) (hb : ∀ z ∈ zs, 0 ≤ z ∧ z ≤ 255) {base : Nat} (ho : w.ownsRow base 5 1 (.slice (some ⟨g, 0, none⟩) n n) n (zs.map (Value.int .u8))) : Elem w B (.slice (some ⟨g, 0, none⟩) n n) := by
  refine ⟨_, n, n, zs, rfl, hn, ⟨hz, hb, .inr ⟨g, 0, rfl, (ho.lt g rfl).2, fun j hj => ?_⟩⟩, fun x hx => ?_⟩
  · rw [Nat.zero_add, ho.cellAt j (by omega)]
    simp [List.getElem?_eq_getElem (show j < zs.length by omega)]
  · simp at hx
    subst hx
    simp
    omega

/-- What the copy hands back. -/
def Cloned (w : World) (len : Nat) (e : Ending) (w' : World) : Prop :=
  (e = .returned (.slice none 0 0) ∧ len = 0) ∨ ∃ vs, e = .returned (.slice (some ⟨w.heap.size, 0, none⟩) len len) ∧ w'.ownsRow w.heap.size 28 1 (.slice (some ⟨w.heap.size, 0, none⟩) len len) len vs ∧ ∀ v ∈ vs, Elem w' w.heap.size v

/-- Through the rounds: the copy so far. -/
def Copying (B len : Nat) (wr : World) : Prop := ∃ vs, wr.ownsRow B 28 1 (.slice (some ⟨B, 0, none⟩) len len) len vs ∧ ∀ v ∈ vs, Elem wr B v
/-- Through the inner rounds: the bytes so far. -/
def Filling (g n : Nat) (wr : World) : Prop := ∃ zs : List Int, zs.length = n ∧ (∀ z ∈ zs, 0 ≤ z ∧ z ≤ 255) ∧ wr.ownsRow g 5 1 (.slice (some ⟨g, 0, none⟩) n n) n (zs.map (Value.int .u8))

theorem copying_made {B len : Nat} {w1 : World} (h : w1.ownsRow B 28 1 (.slice (some ⟨B, 0, none⟩) len len) len (madeCells (Value.slice none 0 0).cells (len * 1)).toList) : Copying B len w1 := by
  refine ⟨_, h, fun v hv => ?_⟩
  have : v = .slice none 0 0 := by
    rw [show (Value.slice none 0 0).cells = #[Value.slice none 0 0] from rfl, toList_madeCells_one] at hv
    exact (List.mem_replicate.1 hv).2
  subst this
  exact Elem.nil _ _

theorem filling_made {g n : Nat} {w1 : World} (h : w1.ownsRow g 5 1 (.slice (some ⟨g, 0, none⟩) n n) n (madeCells (Value.int .u8 0).cells (n * 1)).toList) : Filling g n w1 := by
  refine ⟨List.replicate n 0, by simp, fun z hz => ?_, ?_⟩
  · have := (List.mem_replicate.1 hz).2
    omega
  · rw [show (Value.int .u8 0).cells = #[Value.int .u8 0] from rfl, toList_madeCells_one, Nat.mul_one] at h
    simpa using h

theorem Filling.store {g n j : Nat} {wr : World} (h : Filling g n wr) {z : Int} (hz : 0 ≤ z ∧ z ≤ 255) : Filling g n (wr.setCell ⟨g, j, none⟩ (.int .u8 z)) := by
  obtain ⟨zs, h1, h2, h3⟩ := h
  refine ⟨zs.set j z, by simpa using h1, fun y hy => ?_, ?_⟩
  · rcases List.mem_or_eq_of_mem_set hy with hy | rfl
    · exact h2 y hy
    · exact hz
  · rw [List.map_set]
    exact (h3.stored j _).1

theorem Copying.store {B len j : Nat} {wr : World} (h : Copying B len wr) {v : Value} (hv : Elem wr B v) : Copying B len (wr.setCell ⟨B, j, none⟩ v) := by
  obtain ⟨vs, h1, h2⟩ := h
  refine ⟨vs.set j v, (h1.stored j _).1, fun y hy => ?_⟩
  rcases List.mem_or_eq_of_mem_set hy with hy | rfl
  · exact (h2 y hy).setB
  · exact hv.setB

theorem Copying.below {B len : Nat} {w w' : World} (h : Copying B len w) (hb : Below w.heap.size w w') : Copying B len w' := by
  obtain ⟨vs, h1, h2⟩ := h
  refine ⟨vs, ?_, fun v hv => (h2 v hv).below hb⟩
  have hlt := (h1.lt B rfl).2
  exact h1.kept (w' := w') (row := some w.heap.size) ⟨hb.os, hb.tape, hb.output, hb.size, fun k hk _ => hb.block k hk⟩ (.inr (by simp [Value.ownBlock]; omega))

set_option maxHeartbeats 1000000 in
theorem clone16 (a : Option Addr) (len cap : Nat) (A : Nat → Option Addr) (L C : Nat → Nat) (Z : Nat → List Int) (w : World) (hl : Few len) (hL : Short len L) (hp : Pairs w a len A L C Z) (hn : a = none → len = 0) :
    Calls Try.prog 16 #[.slice a len cap] w fun e w' => Below w.heap.size w w' ∧ Cloned w len e w' := by
  have q29 : ∀ (w : World) (a : Option Addr) (n c n' c' : Nat), (binOp .eql 29 (.slice a n c) (.slice none n' c')).run Try.prog w = .ok (.bool a.isNone) w := fun w a n c n' c' => Lib.run_eql_slice_nil w _ _ a n c n' c' Try.underlying29
  have q28 : ∀ (w : World) (a : Option Addr) (n c n' c' : Nat), (binOp .eql 28 (.slice a n c) (.slice none n' c')).run Try.prog w = .ok (.bool a.isNone) w := fun w a n c n' c' => Lib.run_eql_slice_nil w _ _ a n c n' c' Try.underlying28
  obtain ⟨i5, hi5, hz50, hz51, hz52⟩ := info_parts info5
  obtain ⟨i28, hi28, hz280, hz281, hz282⟩ := info_parts info28
  unfold Few at hl
  cases a with
  | none =>
    have := hn rfl
    subst this
    go_enter Try.func16, Try.ntmps16
    go_wp2
    go_ret
    exact ⟨Below.refl _ _, .inl ⟨rfl, rfl⟩⟩
  | some x =>
    clear hn
    go_enter Try.func16, Try.ntmps16
    go_wp2_with (at_make; refine wpList_make_full _ rfl _ _ 29 rfl w.heap.size 28 i28 (.slice none 0 0) 1 Try.underlying29 hi28 hz280 hz281 _ _ _ _ len rfl rfl rfl rfl (by rw [hz282]; omega) (by unfold maxLen; omega) (Nat.le_refl _) ?_; intro w1 hown1 hgrow1)
    have hcop1 := copying_made hown1
    have hbel1 : Below w.heap.size w w1 := (Below.refl _ _).grown hgrow1 (Nat.le_refl _) (by simp)
    clear hown1 hgrow1
    go_loopw [4] (fun i wr => ∃ k : Nat, k ≤ len ∧ i = .int .i64 k ∧ Copying w.heap.size len wr ∧ Below w.heap.size w wr) (fun i _ => len - (intOf i).toNat)
    case atStart => exact ⟨0, Nat.zero_le _, rfl, hcop1, hbel1⟩
    case round =>
      clear hcop1 hbel1
      rename World => wo
      obtain ⟨k, hk, rfl, hcop, hbel⟩ := hrel
      by_cases hlt : k < len
      · rcases hp with h0 | ⟨b, off, hx, hb, hc⟩
        · omega
        simp at hx
        subst hx
        have hcell := (hbel.cell (p := ⟨b, off + k, none⟩) hb).trans (hc k hlt).1
        have hby := (hc k hlt).2
        have hLk := hL k hlt
        clear hc hL
        obtain ⟨zl, zb, hrow⟩ := hby
        generalize hA : A k = ak at *
        generalize hn : L k = n at *
        generalize hC : C k = ck at *
        generalize hZ : Z k = zs at *
        clear hA hn hC hZ
        cases ak with
        | none =>
          go_wp2
          go_roundw
          case rel => exact ⟨k + 1, by omega, by go_num, hcop, hbel⟩
          case measure => simp [intOf]; omega
        | some y =>
          have hBw : w.heap.size ≤ wo.heap.size := hbel.size
          have hBo : w.heap.size < wo.heap.size := by obtain ⟨vs, h1, _⟩ := hcop; exact (h1.lt _ rfl).2
          go_wp2_with (at_make; refine wpList_make_full _ rfl _ _ 28 rfl wo.heap.size 5 i5 (.int .u8 0) 1 Try.underlying28 hi5 hz50 hz51 _ _ _ _ n rfl rfl rfl rfl (by rw [hz52]; omega) (by unfold maxLen; omega) (Nat.le_refl _) ?_; intro w2 hown2 hgrow2)
          · have hfil2 := filling_made hown2
            have hbel2 : Below wo.heap.size wo w2 := (Below.refl _ _).grown hgrow2 (Nat.le_refl _) (by simp)
            clear hown2 hgrow2
            go_loopw [6] (fun i ws => ∃ m : Nat, m ≤ n ∧ i = .int .i64 m ∧ Filling wo.heap.size n ws ∧ Below wo.heap.size wo ws) (fun i _ => n - (intOf i).toNat)
            case atStart => exact ⟨0, Nat.zero_le _, rfl, hfil2, hbel2⟩
            case round =>
              clear hfil2 hbel2
              obtain ⟨m, hm, rfl, hfil, hbl⟩ := hrel
              have hcell2 := (hbl.cell (p := ⟨b, off + k, none⟩) (by simp; omega)).trans hcell
              by_cases hmn : m < n
              · rcases hrow with h0 | ⟨b2, off2, hy, hb2, hc2⟩
                · omega
                simp at hy
                subst hy
                have hbyte := (hbl.cell (p := ⟨b2, off2 + m, none⟩) (by simp; omega)).trans ((hbel.cell (p := ⟨b2, off2 + m, none⟩) hb2).trans (hc2 m hmn))
                have hzm : 0 ≤ zs.getD m 0 ∧ zs.getD m 0 ≤ 255 := zb _ (by simp [List.getD, List.getElem?_eq_getElem (show m < zs.length by omega)])
                have hst : ∃ v, wr.cell? ⟨wo.heap.size, m, none⟩ = some v := by
                  obtain ⟨ys, h1, h2, h3⟩ := hfil
                  exact ⟨_, by rw [h3.cellAt m (by omega)]; exact List.getElem?_eq_getElem (by simp; omega)⟩
                obtain ⟨v0, hst⟩ := hst
                have hfr : wr.frozen? ⟨wo.heap.size, m, none⟩ = false := by
                  obtain ⟨ys, h1, h2, h3⟩ := hfil
                  exact h3.frozenAt m
                have hfil3 := hfil.store (j := m) hzm
                have hbl3 := hbl.setCell (p := ⟨wo.heap.size, m, none⟩) (Nat.le_refl _) (.int .u8 (zs.getD m 0))
                clear hc2 zb zl
                go_wp2
                go_roundw
                case rel => exact ⟨m + 1, by omega, by go_num, by simpa using hfil3, by simpa using hbl3⟩
                case measure => simp [intOf]; omega
              · have hcop3 := hcop.below hbl
                have hbl4 : Below w.heap.size w wr := hbel.trans (hbl.mono hBw)
                have hel : Elem wr w.heap.size (.slice (some ⟨wo.heap.size, 0, none⟩) n n) := by
                  obtain ⟨ys, h1, h2, h3⟩ := hfil
                  exact elem_row (by omega) hLk h1 h2 h3
                have hst : ∃ v, wr.cell? ⟨w.heap.size, k, none⟩ = some v := by
                  obtain ⟨vs, h1, h2⟩ := hcop3
                  exact ⟨_, by rw [h1.cellAt k (by omega)]; exact List.getElem?_eq_getElem (by rw [h1.1]; omega)⟩
                obtain ⟨v0, hst⟩ := hst
                have hfr : wr.frozen? ⟨w.heap.size, k, none⟩ = false := by
                  obtain ⟨vs, h1, h2⟩ := hcop3
                  exact h1.frozenAt k
                have hcop4 := hcop3.store (j := k) hel
                have hbl5 := hbl4.setCell (p := ⟨w.heap.size, k, none⟩) (Nat.le_refl _) (.slice (some ⟨wo.heap.size, 0, none⟩) n n)
                clear zb zl hrow
                go_wp2
                go_roundw
                case rel => exact ⟨k + 1, by omega, by go_num, hcop4, hbl5⟩
                case measure => simp [intOf]; omega
      · go_wp2
        go_ret
        exact ⟨hbel, by
          obtain ⟨vs, h1, h2⟩ := hcop
          exact .inr ⟨vs, rfl, h1, h2⟩⟩

end Go.Proofs.Qxb6001747a.Hdr
