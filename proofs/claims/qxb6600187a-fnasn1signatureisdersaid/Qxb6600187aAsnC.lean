import Derived.Test.Qxb6600187aAsnB
import Derived.Deep.AppendLies
import Derived.Deep.RegionHeld3
namespace Go.Proofs.Qxb6600187a.Asn
open Go.RowKit Go.Proofs.Qxb6600187a.Esc

/-- 'make([]byte, n, c)': n zero bytes are owned, with room for c. -/
theorem wpList_make_part (w : World) {ops : Array Oper} {rest : List Oper} {o : Oper} {a : Act} {Q : Exit → Act → World → Prop}
    (hg : o.guard = none) (l c : Operand) (hop : o.op = Op.makeSlice 22 l c) (n m : Nat) (hnm : n ≤ m) (hm : m ≤ 1000) (hl : a.eval l = .int .i64 (n : Int)) (hc : a.eval c = .int .i64 (m : Int))
    (hK : ∀ w', w'.ownsRow w.heap.size 5 1 (.slice (some ⟨w.heap.size, 0, none⟩) n m) n ((List.replicate n (0 : Int)).map (Value.int .u8)) → w.grownBy w' none → wpList Try.prog ops Q rest (a.put o.dst (.slice (some ⟨w.heap.size, 0, none⟩) n m)) w') :
    wpList Try.prog ops Q (o :: rest) a w := by
  refine wpList_plain hg fun K hK' => ?_
  obtain ⟨i5, hi5, hz50, hz51, hz52⟩ := info_parts info5
  have hr := run_make (P := Try.prog) w 22 5 i5 (.int .u8 0) Try.underlying22 hi5 hz50 .i64 .i64 n m (by omega) (by omega) (by rw [hz52]; omega) (by omega)
  simp only [Int.toNat_natCast, hz51, Nat.mul_one] at hr
  have hown : (w.alloc (.cells (madeCells (Value.int .u8 0).cells m) 5)).ownsRow w.heap.size 5 1 (.slice (some ⟨w.heap.size, 0, none⟩) n m) n ((List.replicate n (0 : Int)).map (Value.int .u8)) := by
    refine ⟨by simp, .inr ⟨w.heap.size, m, _, rfl, Nat.le_refl _, heap_alloc_new w _, hnm, by unfold maxLen; omega, by simp [size_madeCells], ?_⟩⟩
    rw [show (Value.int .u8 0).cells = #[Value.int .u8 0] from rfl, toList_madeCells_one, List.take_replicate]
    simp
    omega
  unfold Oper.wp
  simp [execOp, hop, hl, hc, hr, Result.andThen]
  exact hK' _ _ (hK _ hown (World.grownBy_alloc w _ none))

/-- What asn1Signature leaves. -/
def Der (zs : List Int) (w : World) (e : Ending) (w' : World) : Prop :=
  ∃ j1 j2 g cap n, Strip (zs.take 32) j1 ∧ Strip (zs.drop 32) j2 ∧ n = 2 + ((enc (zs.take 32) j1).length + (enc (zs.drop 32) j2).length) ∧ e = .returned (.slice (some ⟨g, 0, none⟩) n cap) ∧ n ≤ cap ∧ w.heap.size ≤ g ∧ g < w'.heap.size ∧ Below w.heap.size w w' ∧
    Row w' g 0 n ([48, (n : Int) - 2] ++ (enc (zs.take 32) j1 ++ enc (zs.drop 32) j2))

/-- How far the text has come. -/
def Stage (zs : List Int) (k : Nat) (D : List Int) : Prop :=
  (k = 0 ∧ D = [48, 0]) ∨ (k = 1 ∧ ∃ j1, Strip (zs.take 32) j1 ∧ D = [48, 0] ++ enc (zs.take 32) j1) ∨
    (k = 2 ∧ ∃ j1 j2, Strip (zs.take 32) j1 ∧ Strip (zs.drop 32) j2 ∧ D = [48, 0] ++ (enc (zs.take 32) j1 ++ enc (zs.drop 32) j2))
theorem Stage.len {zs : List Int} {k : Nat} {D : List Int} (hl : zs.length = 64) (h : Stage zs k D) : 2 ≤ D.length ∧ D.length ≤ 72 := by
  have h1 : (zs.take 32).length = 32 := by simp; omega
  have h2 : (zs.drop 32).length = 32 := by simp; omega
  rcases h with ⟨_, rfl⟩ | ⟨_, j1, hs1, rfl⟩ | ⟨_, j1, j2, hs1, hs2, rfl⟩
  · simp
  · have := ct_bd h1 hs1.1
    simp only [List.length_append, enc_len, List.length_cons, List.length_nil]
    omega
  · have := ct_bd h1 hs1.1
    have := ct_bd h2 hs2.1
    simp only [List.length_append, enc_len, List.length_cons, List.length_nil]
    omega
/-- Through the two rounds. -/
def Rel (zs : List Int) (w : World) (H b k : Nat) (v : Value) (wr : World) : Prop :=
  ∃ g cap D, v = .slice (some ⟨g, 0, none⟩) D.length cap ∧ wr.ownsRow w.heap.size 5 1 (.slice (some ⟨g, 0, none⟩) D.length cap) D.length (D.map (Value.int .u8)) ∧ g ≠ H ∧ H < wr.heap.size ∧ Below w.heap.size w wr ∧
    wr.cell? ⟨H, 0, none⟩ = some (.slice (some ⟨b, 0, none⟩) 32 64) ∧ wr.cell? ⟨H, 1, none⟩ = some (.slice (some ⟨b, 32, none⟩) 32 32) ∧ Stage zs k D

theorem row_half (zs : List Int) (w : World) (b : Nat) (hr : Row w b 0 64 zs) : Row w b 0 32 (zs.take 32) ∧ Row w b 32 32 (zs.drop 32) := ⟨hr.take (by omega), by simpa using hr.drop 32⟩
theorem row_bytes {w : World} {b o n : Nat} {h : List Int} (hr : Row w b o n h) : Bytes h := fun i => by
  by_cases hi : i < h.length
  · exact hr.2.1 _ (by simp [List.getD, List.getElem?_eq_getElem hi])
  · have e : h[i]? = none := List.getElem?_eq_none (by omega)
    simp [List.getD, e]

theorem row_own {g n cap : Nat} {w : World} {ys : List Int} {base : Nat} (h1 : ys.length = n) (h2 : ∀ z ∈ ys, 0 ≤ z ∧ z ≤ 255) (h3 : w.ownsRow base 5 1 (.slice (some ⟨g, 0, none⟩) n cap) n (ys.map (Value.int .u8))) : Row w g 0 n ys :=
  ⟨h1, h2, fun j hj => by
    rw [Nat.zero_add, h3.cellAt j (by omega)]
    simp [List.getElem?_eq_getElem (show j < ys.length by omega)]⟩
theorem enc_bytes {h : List Int} {j : Nat} (hl : h.length = 32) (hj : j ≤ 31) (hb : Bytes h) : ∀ z ∈ enc h j, 0 ≤ z ∧ z ≤ 255 := by
  intro z hz
  have hc := ct_bd hl hj
  have hd : ∀ y ∈ h.drop j, 0 ≤ y ∧ y ≤ 255 := fun y hy => by
    obtain ⟨i, hi, rfl⟩ := List.mem_iff_getElem.1 (List.mem_of_mem_drop hy)
    have := hb i
    simpa [List.getD, List.getElem?_eq_getElem hi] using this
  unfold enc at hz
  rcases List.mem_append.1 hz with h1 | h1
  · simp at h1
    omega
  · unfold ct at h1
    split at h1
    · rcases List.mem_cons.1 h1 with h2 | h2
      · omega
      · exact hd z h2
    · exact hd z h1

set_option maxRecDepth 100000 in
set_option maxHeartbeats 4000000 in
theorem asn15 (b : Nat) (zs : List Int) (w : World) (hr : Row w b 0 64 zs) (hb : b < w.heap.size) :
    Calls Try.prog 15 #[.slice (some ⟨b, 0, none⟩) 64 64] w fun e w' => Der zs w e w' := by
  obtain ⟨i5, hi5, hz50, hz51, hz52⟩ := info_parts info5
  go_enter Try.func15, Try.ntmps15
  go_wp2_with (at_make; refine wpList_make_part _ rfl _ _ rfl 2 72 (by omega) (by omega) rfl rfl ?_; intro w1 hown1 hgrow1; have hst : ∃ v, w1.cell? ⟨w.heap.size, 0, none⟩ = some v := ⟨_, by rw [hown1.cellAt 0 (by omega)]; rfl⟩; obtain ⟨v0, hst⟩ := hst; have hfr := hown1.frozenAt 0; have hs0 := (hown1.stored 0 (.int .u8 48)).1; have hlt1 : w.heap.size < w1.heap.size := (hown1.lt _ rfl).2)
  have hbel1 : Below w.heap.size w (w1.setCell ⟨w.heap.size, 0, none⟩ (.int .u8 48)) := ((Below.refl _ _).grown hgrow1 (Nat.le_refl _) (by simp)).setCell (Nat.le_refl _) _
  have hsz2 : (w1.setCell ⟨w.heap.size, 0, none⟩ (.int .u8 48)).heap.size = w1.heap.size := World.size_setCell ..
  clear hown1 hgrow1 hst hfr
  go_region
  have hR0 : Rel zs w w1.heap.size b 0 (.slice (some ⟨w.heap.size, 0, none⟩) 2 72) ((w1.setCell ⟨w.heap.size, 0, none⟩ (.int .u8 48)).alloc (.cells #[.slice (some ⟨b, 0, none⟩) 32 64, .slice (some ⟨b, 32, none⟩) 32 32] 22)).drew := by
    refine ⟨w.heap.size, 72, [48, 0], rfl, (hs0.alloc _).drew, by omega, by simp, (hbel1.alloc (by rw [hsz2]; omega) _).drew, ?_, ?_, .inl ⟨rfl, rfl⟩⟩
    · show ((w1.setCell ⟨w.heap.size, 0, none⟩ (.int .u8 48)).alloc _).cell? _ = _
      rw [World.cell?_alloc_at _ _ _ _ hsz2.symm]
      rfl
    · show ((w1.setCell ⟨w.heap.size, 0, none⟩ (.int .u8 48)).alloc _).cell? _ = _
      rw [World.cell?_alloc_at _ _ _ _ hsz2.symm]
      rfl
  have hH : w1.heap.size = w1.heap.size := rfl
  generalize ((w1.setCell ⟨w.heap.size, 0, none⟩ (.int .u8 48)).alloc (.cells #[.slice (some ⟨b, 0, none⟩) 32 64, .slice (some ⟨b, 32, none⟩) 32 32] 22)).drew = W at *
  generalize w1.heap.size = H at *
  have hzl : zs.length = 64 := hr.1
  have HZ : Hid (zs.length = 64) := hzl
  obtain ⟨hrA, hrB⟩ := row_half zs w b hr
  clear hbel1 hsz2 hs0 hlt1 hH hzl hr
  go_wp2
  go_loopw [3, 15] (fun v i wr => ∃ k : Nat, k ≤ 2 ∧ i = .int .i64 k ∧ Rel zs w H b k v wr) (fun _ i _ => 2 - (intOf i).toNat)
  case atStart => exact ⟨0, by omega, rfl, hR0⟩
  case round =>
    clear hR0
    rename World => wo
    obtain ⟨k, hk, rfl, hrel⟩ := hrel
    obtain ⟨g, cap, D, rfl, hown, hgH, hHw, hbel, hh0, hh1, hst⟩ := hrel
    have hDl := hst.len HZ.out
    have hwo : w.heap.size ≤ wo.heap.size := hbel.size
    by_cases hk2 : k < 2
    · have hx : ∃ o c h, wo.cell? ⟨H, k, none⟩ = some (.slice (some ⟨b, o, none⟩) 32 c) ∧ 32 ≤ c ∧ c ≤ 64 ∧ Row w b o 32 h ∧ (∀ j, Strip h j → Stage zs (k + 1) (D ++ enc h j)) := by
        rcases hst with ⟨rfl, rfl⟩ | ⟨rfl, j1, hs1, rfl⟩ | ⟨rfl, _⟩
        · exact ⟨0, 64, _, hh0, by omega, by omega, hrA, fun j hj => .inr (.inl ⟨rfl, j, hj, rfl⟩)⟩
        · exact ⟨32, 32, _, hh1, by omega, by omega, hrB, fun j hj => .inr (.inr ⟨rfl, j1, j, hs1, hj, by simp⟩)⟩
        · omega
      obtain ⟨o, c, h, hcell, hc1, hc2, hrow, hst2⟩ := hx
      have HSt : Hid (∀ j, Strip h j → Stage zs (k + 1) (D ++ enc h j)) := hst2
      have hby := row_bytes hrow
      have HBy : Hid (Bytes h) := hby
      have HRow : Hid (Row w b o 32 h) := hrow
      have hlh : h.length = 32 := hrow.1
      clear hst2 hby hrow hst
      go_wp2
      go_loop [5] (fun s => ∃ j : Nat, j ≤ 31 ∧ s = .slice (some ⟨b, o + j, none⟩) (32 - j) (c - j) ∧ Hid (∀ i, i < j → h.getD i 0 = 0)) (fun s => match s with | .slice _ l _ => l | _ => 0)
      case atStart => exact ⟨0, by omega, rfl, fun i hi => by omega⟩
      case round =>
        obtain ⟨j, hj, rfl, hzero⟩ := hrel
        have hbj := HBy.out j
        have hcj := (hbel.cell (p := ⟨b, o + j, none⟩) hb).trans (HRow.out.2.2 j (by omega))
        have Hsrc : Hid (∀ W, Below w.heap.size w W → ∀ i u, ((h.drop j).map (Value.int .u8))[i]? = some u → W.cell? ((⟨b, o + j, none⟩ : Addr).add i) = some u) := by
          intro W hW i u hu
          have hi : i < 32 - j := by
            rcases Nat.lt_or_ge i (32 - j) with h1 | h1
            · exact h1
            · rw [List.getElem?_eq_none (by simp [hlh]; omega)] at hu; cases hu
          rw [Addr.add_mid, Nat.add_assoc]
          rw [(hW.cell (p := ⟨b, o + (j + i), none⟩) hb), HRow.out.2.2 (j + i) (by omega)]
          rw [List.getElem?_map, List.getElem?_drop] at hu
          simp [List.getD]
          rw [List.getElem?_eq_getElem (by omega)] at hu ⊢
          simpa using hu
        by_cases hgo : j < 31 ∧ h.getD j 0 = 0
        · obtain ⟨hj31, hj0⟩ := hgo
          rw [hj0] at hcj
          clear Hsrc
          go_wp2
          refine ⟨⟨j + 1, by omega, ⟨by omega, by omega, by omega⟩, fun i hi => ?_⟩, by omega⟩
          by_cases hij : i = j
          · subst hij; exact hj0
          · exact hzero.out i (by omega)
        · have hstrip : Strip h j := ⟨hj, hzero.out, fun h1 h2 => hgo ⟨h1, h2⟩⟩
          have hloop : 31 ≤ j ∨ (j < 31 ∧ (h.getD j 0 == 0) = false) := by
            by_cases h1 : 31 ≤ j
            · exact .inl h1
            · exact .inr ⟨by omega, beq_eq_false_iff_ne.2 (hstrip.2.2 (by omega))⟩
          have HE3 : Hid (128 ≤ h.getD j 0 → enc h j = [2, ((32 - j : Nat) : Int) + 1, 0] ++ h.drop j) := fun h1 => by
            have e : ct h j = 0 :: h.drop j := by unfold ct; rw [if_pos h1]
            have hl : (ct h j).length = 33 - j := by rw [ct_len hlh hj, if_pos h1]
            unfold enc
            rw [hl, e, show ((33 - j : Nat) : Int) = ((32 - j : Nat) : Int) + 1 by omega]
            rfl
          have HE2 : Hid (¬ 128 ≤ h.getD j 0 → enc h j = [2, ((32 - j : Nat) : Int)] ++ h.drop j) := fun h1 => by
            have e : ct h j = h.drop j := by unfold ct; rw [if_neg h1]
            have hl : (ct h j).length = 32 - j := by rw [ct_len hlh hj, if_neg h1]
            unfold enc
            rw [hl, e]
          clear hgo hzero
          have HStrip : Hid (Strip h j) := hstrip
          clear hstrip
          have hand := and128 (h.getD j 0) hbj.1 hbj.2
          generalize h.getD j 0 = x at *
          obtain ⟨hx0, hx255⟩ := hbj
          by_cases h128 : 128 ≤ x
          · rw [if_pos h128] at hand
            have HEE := HE3.out h128
            have HE : Hid (enc h j = [2, ((32 - j : Nat) : Int) + 1, 0] ++ h.drop j) := HEE
            clear HEE HE2 HE3
            rcases hloop with hl31 | ⟨hl31, hl32⟩
            all_goals
              go_wp2_with (first | (at_builtin; refine wpList_append_lies _ rfl _ _ 22 rfl w.heap.size 5 i5 (.int .u8 0) 1 1 Try.underlying22 hi5 hz50 hz51 hz52 rfl (by omega) (.slice (some ⟨g3, 0, none⟩) (D.length + 3) cap3) _ _ rfl hown3 ⟨b, o + j, none⟩ (32 - j) (c - j) ((h.drop j).map (Value.int .u8)) rfl (by simp [hlh]) hsrc (ints_oneCell .u8 _) (by omega) (by unfold maxLen; omega) (by omega) hw3 w3.heap.size rfl ?_; intro g4 cap4 w4 hown4 hgrow4 hat4 hlt4) | (at_builtin; refine wpList_append_lies _ rfl _ _ 22 rfl w.heap.size 5 i5 (.int .u8 0) 1 1 Try.underlying22 hi5 hz50 hz51 hz52 rfl (by omega) (.slice (some ⟨g, 0, none⟩) D.length cap) D.length (D.map (Value.int .u8)) rfl (hown.alloc _) ⟨wo.heap.size, 0, none⟩ 3 3 [.int .u8 2, .int .u8 (((32 - j : Nat) : Int) + 1), .int .u8 0] rfl rfl (World.news_of_block (cs := #[.int .u8 2, .int .u8 (((32 - j : Nat) : Int) + 1), .int .u8 0]) (t := 5) (fr := (0, 0)) (heap_alloc_new wo _)) (by simp [Value.oneCell']) (by omega) (by unfold maxLen; omega) (by omega) (by simp; omega) (wo.heap.size + 1) (by simp) ?_; intro g3 cap3 w3 hown3 hgrow3 hat3 hlt3; have hB3 : Below w.heap.size w w3 := (hbel.alloc hwo _).grown hgrow3 (by simp; omega) (fun i hi => (hown.lt i hi).1); have hw3 : w.heap.size ≤ w3.heap.size := hB3.size; have hsrc := Hsrc.out w3 hB3))
              have hstrip := HStrip.out
              have hB4 : Below w.heap.size w w4 := hB3.grown hgrow4 hw3 (fun i hi => (hown3.lt i hi).1)
              have hg3 : g3 ≠ H := by
                rcases hat3 with h | h
                · simp [Value.ownBlock] at h; omega
                · omega
              have hHw3 : H < w3.heap.size := by have := hgrow3.size; simp at this; omega
              have hg4 : g4 ≠ H := by
                rcases hat4 with h | h
                · simp [Value.ownBlock] at h; omega
                · omega
              have far : ∀ i v, wo.cell? ⟨H, i, none⟩ = some v → w4.cell? ⟨H, i, none⟩ = some v := fun i v hv => by
                have e1 : (wo.alloc (.cells #[.int .u8 2, .int .u8 (((32 - j : Nat) : Int) + 1), .int .u8 0] 5)).cell? ⟨H, i, none⟩ = some v := by rw [World.cell?_alloc_past _ _ _ hHw]; exact hv
                have e2 := hgrow3.cell e1 (by simp [Value.ownBlock]; omega)
                exact hgrow4.cell e2 (by simp [Value.ownBlock]; omega)
              have hRel : Rel zs w H b (k + 1) (.slice (some ⟨g4, 0, none⟩) (D.length + 3 + (32 - j)) cap4) w4 := by
                have hD : D ++ enc h j = D ++ [2, ((32 - j : Nat) : Int) + 1, 0] ++ h.drop j := by rw [HE.out]; simp
                have hDl : (D ++ enc h j).length = D.length + 3 + (32 - j) := by rw [hD]; simp [hlh]; omega
                refine ⟨g4, cap4, D ++ enc h j, by rw [hDl], ?_, hg4, by have := hgrow4.size; omega, hB4, far _ _ hh0, far _ _ hh1, HSt.out j hstrip⟩
                rw [hDl, hD]
                simpa using hown4
              go_roundw
              case rel => exact ⟨k + 1, by omega, by go_num, hRel⟩
              case measure => simp [intOf]; omega
          · rw [if_neg h128] at hand
            have HEE := HE2.out h128
            have HE : Hid (enc h j = [2, ((32 - j : Nat) : Int)] ++ h.drop j) := HEE
            clear HEE HE2 HE3
            rcases hloop with hl31 | ⟨hl31, hl32⟩
            all_goals
              go_wp2_with (first | (at_builtin; refine wpList_append_lies _ rfl _ _ 22 rfl w.heap.size 5 i5 (.int .u8 0) 1 1 Try.underlying22 hi5 hz50 hz51 hz52 rfl (by omega) (.slice (some ⟨g3, 0, none⟩) (D.length + 2) cap3) _ _ rfl hown3 ⟨b, o + j, none⟩ (32 - j) (c - j) ((h.drop j).map (Value.int .u8)) rfl (by simp [hlh]) hsrc (ints_oneCell .u8 _) (by omega) (by unfold maxLen; omega) (by omega) hw3 w3.heap.size rfl ?_; intro g4 cap4 w4 hown4 hgrow4 hat4 hlt4) | (at_builtin; refine wpList_append_lies _ rfl _ _ 22 rfl w.heap.size 5 i5 (.int .u8 0) 1 1 Try.underlying22 hi5 hz50 hz51 hz52 rfl (by omega) (.slice (some ⟨g, 0, none⟩) D.length cap) D.length (D.map (Value.int .u8)) rfl (hown.alloc _) ⟨wo.heap.size, 0, none⟩ 2 2 [.int .u8 2, .int .u8 ((32 - j : Nat) : Int)] rfl rfl (World.news_of_block (cs := #[.int .u8 2, .int .u8 ((32 - j : Nat) : Int)]) (t := 5) (fr := (0, 0)) (heap_alloc_new wo _)) (by simp [Value.oneCell']) (by omega) (by unfold maxLen; omega) (by omega) (by simp; omega) (wo.heap.size + 1) (by simp) ?_; intro g3 cap3 w3 hown3 hgrow3 hat3 hlt3; have hB3 : Below w.heap.size w w3 := (hbel.alloc hwo _).grown hgrow3 (by simp; omega) (fun i hi => (hown.lt i hi).1); have hw3 : w.heap.size ≤ w3.heap.size := hB3.size; have hsrc := Hsrc.out w3 hB3))
              have hstrip := HStrip.out
              have hB4 : Below w.heap.size w w4 := hB3.grown hgrow4 hw3 (fun i hi => (hown3.lt i hi).1)
              have hg3 : g3 ≠ H := by
                rcases hat3 with h | h
                · simp [Value.ownBlock] at h; omega
                · omega
              have hHw3 : H < w3.heap.size := by have := hgrow3.size; simp at this; omega
              have hg4 : g4 ≠ H := by
                rcases hat4 with h | h
                · simp [Value.ownBlock] at h; omega
                · omega
              have far : ∀ i v, wo.cell? ⟨H, i, none⟩ = some v → w4.cell? ⟨H, i, none⟩ = some v := fun i v hv => by
                have e1 : (wo.alloc (.cells #[.int .u8 2, .int .u8 ((32 - j : Nat) : Int)] 5)).cell? ⟨H, i, none⟩ = some v := by rw [World.cell?_alloc_past _ _ _ hHw]; exact hv
                have e2 := hgrow3.cell e1 (by simp [Value.ownBlock]; omega)
                exact hgrow4.cell e2 (by simp [Value.ownBlock]; omega)
              have hRel : Rel zs w H b (k + 1) (.slice (some ⟨g4, 0, none⟩) (D.length + 2 + (32 - j)) cap4) w4 := by
                have hD : D ++ enc h j = D ++ [2, ((32 - j : Nat) : Int)] ++ h.drop j := by rw [HE.out]; simp
                have hDl : (D ++ enc h j).length = D.length + 2 + (32 - j) := by rw [hD]; simp [hlh]; omega
                refine ⟨g4, cap4, D ++ enc h j, by rw [hDl], ?_, hg4, by have := hgrow4.size; omega, hB4, far _ _ hh0, far _ _ hh1, HSt.out j hstrip⟩
                rw [hDl, hD]
                simpa using hown4
              go_roundw
              case rel => exact ⟨k + 1, by omega, by go_num, hRel⟩
              case measure => simp [intOf]; omega
    · have hk2' : k = 2 := by omega
      subst hk2'
      have hst1 : ∃ v, wo.cell? ⟨g, 1, none⟩ = some v := ⟨_, by rw [hown.cellAt 1 (by omega)]; exact List.getElem?_eq_getElem (by rw [hown.1]; omega)⟩
      obtain ⟨v1, hst1⟩ := hst1
      have hfr1 := hown.frozenAt 1
      have hown2 := (hown.stored 1 (.int .u8 ((D.length : Int) - 2))).1
      have hgl := hown.lt g rfl
      have hcap : D.length ≤ cap := by
        rcases hown.2 with ⟨h, _⟩ | ⟨g', cap', cur, h, _, _, h4, _⟩
        · cases h
        · cases h; exact h4
      have hbel2 := hbel.setCell (p := ⟨g, 1, none⟩) hgl.1 (.int .u8 ((D.length : Int) - 2))
      have hfin : Der zs w (.returned (.slice (some ⟨g, 0, none⟩) D.length cap)) (wo.setCell ⟨g, 1, none⟩ (.int .u8 ((D.length : Int) - 2))) := by
        rcases hst with ⟨h, _⟩ | ⟨h, _⟩ | ⟨_, j1, j2, hs1, hs2, hD⟩
        · omega
        · omega
        · refine ⟨j1, j2, g, cap, D.length, hs1, hs2, by rw [hD]; simp; omega, rfl, hcap, hgl.1, by rw [World.size_setCell]; exact hgl.2, hbel2, ?_⟩
          have hDs : D.set 1 ((D.length : Int) - 2) = [48, (D.length : Int) - 2] ++ (enc (zs.take 32) j1 ++ enc (zs.drop 32) j2) := by
            generalize (D.length : Int) - 2 = q
            rw [hD]
            rfl
          have hown3 := hown2
          rw [← List.map_set, hDs] at hown3
          have hlen : ([48, (D.length : Int) - 2] ++ (enc (zs.take 32) j1 ++ enc (zs.drop 32) j2)).length = D.length := by rw [← hDs]; simp
          refine row_own hlen (fun z hz => ?_) hown3
          have hA := row_bytes hrA
          have hB := row_bytes hrB
          rcases List.mem_append.1 hz with h1 | h1
          · simp at h1
            omega
          · rcases List.mem_append.1 h1 with h2 | h2
            · exact enc_bytes hrA.1 hs1.1 hA z h2
            · exact enc_bytes hrB.1 hs2.1 hB z h2
      have HF : Hid (Der zs w (.returned (.slice (some ⟨g, 0, none⟩) D.length cap)) (wo.setCell ⟨g, 1, none⟩ (.int .u8 ((D.length : Int) - 2)))) := hfin
      clear hfin hst hown hown2 hbel2
      go_wp2
      go_ret
      exact HF.out

set_option maxHeartbeats 1000000 in
theorem asn8 (b : Nat) (zs : List Int) (w : World) (hr : Row w b 0 64 zs) (hb : b < w.heap.size) :
    Calls Try.prog 8 #[.slice (some ⟨b, 0, none⟩) 64 64] w fun e w' => Der zs w e w' := by
  go_enter Try.func8, Try.ntmps8
  go_wp2_with fail
  refine (asn15 b zs w hr hb).mono ?_
  rintro e w1 ⟨j1, j2, g, cap, n, h1, h2, h3, rfl, h4⟩
  have HD : Hid (Der zs w (.returned (.slice (some ⟨g, 0, none⟩) n cap)) w1) := ⟨j1, j2, g, cap, n, h1, h2, h3, rfl, h4⟩
  clear h1 h2 h3 h4
  go_wp2
  go_ret
  exact HD.out

end Go.Proofs.Qxb6600187a.Asn
