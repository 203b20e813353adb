import Derived.Test.Qxb6600187aEscC
namespace Go.Proofs.Qxb6600187a.Esc
open Go.RowKit

/-- The longer copy, so far: the first k bytes of zs, then zeros. -/
def ext (zs : List Int) (k : Nat) : List Int := zs.take k ++ List.replicate (zs.length + 1 - k) 0
theorem ext_len (zs : List Int) (k : Nat) (hk : k ≤ zs.length) : (ext zs k).length = zs.length + 1 := by simp [ext]; omega
theorem ext_step (zs : List Int) (k : Nat) (hk : k < zs.length) : (ext zs k).set k (zs.getD k 0) = ext zs (k + 1) := by
  unfold ext
  have h1 : (zs.take k).length = k := by simp; omega
  rw [List.set_append_right _ _ (by omega), h1, Nat.sub_self, show zs.length + 1 - k = (zs.length + 1 - (k + 1)) + 1 by omega, List.replicate_succ, List.set_cons_zero, List.take_succ_eq_append_getElem hk]
  simp only [List.getD, List.getElem?_eq_getElem hk, Option.getD_some, List.append_assoc, List.cons_append, List.nil_append]
theorem ext_end (zs : List Int) (p : Int) : (ext zs zs.length).set zs.length p = zs ++ [p] := by
  unfold ext
  rw [List.take_length, show zs.length + 1 - zs.length = 1 by omega, List.set_append_right _ _ (by omega), Nat.sub_self]
  rfl

/-- Through the rounds. -/
def Exts (g : Nat) (zs : List Int) (k : Nat) (wr : World) : Prop := wr.ownsRow g 5 1 (.slice (some ⟨g, 0, none⟩) (zs.length + 1) (zs.length + 1)) (zs.length + 1) ((ext zs k).map (Value.int .u8))

set_option maxHeartbeats 4000000 in
theorem walk5 (b off n c : Nat) (zs : List Int) (x y : Int) (w : World) (hn : n ≤ maxLen) (hr : Row w b off n zs) (hb : b < w.heap.size) (hy : 0 ≤ y ∧ y ≤ 255) :
    Calls Try.prog 5 #[.slice (some ⟨b, off, none⟩) n c, .int .i64 x, .int .u8 y] w fun e w' => e = .returned (.bool true) ∧ Below w.heap.size w w' := by
  obtain ⟨i5, hi5, hz50, hz51, hz52⟩ := info_parts info5
  have hn' := hn
  unfold maxLen at hn'
  go_enter Try.func5, Try.ntmps5
  go_wp2_with fail
  refine (bytes13 _ n c x y w hn).mono ?_
  rintro e wz ⟨⟨r, rfl, hr'⟩, rfl⟩
  cases r with
  | false =>
    go_wp2
    go_ret
    exact ⟨rfl, Below.refl _ _⟩
  | true =>
    have hS : n ≤ 1048576 := hr' rfl
    clear hr'
    by_cases hx0 : x < 0
    · go_wp2
      go_ret
      exact ⟨rfl, Below.refl _ _⟩
    obtain ⟨i, rfl⟩ := Int.eq_ofNat_of_zero_le (show 0 ≤ x by omega)
    have hd0 : decide ((i : Int) < 0) = false := by simp
    by_cases hin : i < n
    · have hd1 : decide ((1048576 : Int) < (n : Int)) = false := by simp; omega
      go_wp2_with fail
      refine (copy7 b off n c zs w hS hr hb).mono ?_
      rintro e w1 ⟨rfl, hb1, hlt1, ys, hR⟩
      clear hr hb
      go_wp2_with fail
      refine (esc14 w.heap.size 0 n n i ys w1 (by omega) hin hR hlt1).mono ?_
      rintro e w2 ⟨rfl, hb2⟩
      have hlt2 : w.heap.size < w2.heap.size := Nat.lt_of_lt_of_le hlt1 hb2.size
      have hR2 := hR.below hb2 hlt1
      have hB2 : Below w.heap.size w w2 := hb1.trans (hb2.mono hb1.size)
      have hy0 : ys.length = n := hR.1
      have hdr := ee_drop ys i (by omega)
      have hlo := ee_local ys i y (by omega)
      have HLy : Hid (ys.length = n) := hy0
      clear hb1 hb2 hR hlt1 hy0
      generalize hE : ee ys i = E at *
      have HEE : Hid (ee ys i = E) := hE
      clear hE
      go_wp2_with fail
      have h14 := esc14 w.heap.size (0 + i) (n - i) (n - i) 0 (ys.drop i) w2 (by omega) (by omega) (hR2.drop i) hlt2
      rw [Nat.zero_add, show ((0 : Nat) : Int) = 0 from rfl] at h14
      refine h14.mono ?_
      clear h14
      rintro e w3 ⟨rfl, hb3⟩
      rw [hdr]
      have hlt3 : w.heap.size < w3.heap.size := Nat.lt_of_lt_of_le hlt2 hb3.size
      have hR3 := hR2.below hb3 hlt2
      have hB3 : Below w.heap.size w w3 := hB2.trans (hb3.mono hB2.size)
      clear hb3 hR2 hlt2 hB2 hdr
      by_cases hE1 : E = -1
      · subst hE1
        rw [if_pos rfl]
        clear hlo
        go_wp2
        go_ret
        exact ⟨rfl, hB3⟩
      · rw [if_neg hE1]
        obtain ⟨k, hk1, hik, hkn, htk, hap⟩ := hlo hE1
        subst hk1
        rw [HLy.out] at hkn
        have HT : Hid (ee (ys.take k) i = (k : Int)) := htk
        have HA : Hid (ee (ys ++ [y]) i = (k : Int)) := hap
        have b1 : ((k : Int) == -1) = false := beq_eq_false_iff_ne.2 (by omega)
        have b2 : ((k : Int) - (i : Int) == -1) = false := beq_eq_false_iff_ne.2 (by omega)
        have b3 : ((k : Int) != (k : Int) - (i : Int) + (i : Int)) = false := by simp
        have b4 : decide ((k : Int) ≤ (i : Int)) = false := by simp; omega
        have b5 : decide ((n : Int) < (k : Int)) = false := by simp; omega
        clear hlo htk hap hE1 HEE
        go_wp2_with fail
        refine (esc14 w.heap.size 0 k n i (ys.take k) w3 (by omega) hik (hR3.take hkn) hlt3).mono ?_
        rintro e w4 ⟨rfl, hb4⟩
        rw [HT.out]
        have b6 : ((k : Int) != (k : Int)) = false := by simp
        have hlt4 : w.heap.size < w4.heap.size := Nat.lt_of_lt_of_le hlt3 hb4.size
        have hR4 := hR3.below hb4 hlt3
        have hB4 : Below w.heap.size w w4 := hB3.trans (hb4.mono hB3.size)
        clear hb4 hR3 hlt3 hB3 HT
        go_wp2_with (at_make; refine wpList_make_full _ rfl _ _ 22 rfl w4.heap.size 5 i5 (.int .u8 0) 1 Try.underlying22 hi5 hz50 hz51 _ _ _ _ (n + 1) rfl rfl (by omega) (by omega) (by rw [hz52]; omega) (by unfold maxLen; omega) (Nat.le_refl _) ?_; intro w5 hown5 hgrow5)
        have hB5 : Below w4.heap.size w4 w5 := (Below.refl _ _).grown hgrow5 (Nat.le_refl _) (by simp)
        have hX5 : Exts w4.heap.size ys 0 w5 := by
          unfold Exts
          rw [HLy.out]
          rw [show (Value.int .u8 0).cells = #[Value.int .u8 0] from rfl, toList_madeCells_one, Nat.mul_one] at hown5
          simpa [ext, HLy.out] using hown5
        clear hown5 hgrow5
        obtain ⟨hyl, hyb, hyc⟩ := hR4
        go_loopw [10] (fun v wr => ∃ m : Nat, m ≤ n ∧ v = .int .i64 m ∧ Exts w4.heap.size ys m wr ∧ Below w4.heap.size w4 wr) (fun v _ => n - (intOf v).toNat)
        case atStart => exact ⟨0, Nat.zero_le _, rfl, hX5, hB5⟩
        case round =>
          clear hX5 hB5
          obtain ⟨m, hm, rfl, hX, hBl⟩ := hrel
          have hXl : ys.length = n := HLy.out
          by_cases hmn : m < n
          · have hcell := (hBl.cell (p := ⟨w.heap.size, 0 + m, none⟩) hlt4).trans (hyc m hmn)
            rw [Nat.zero_add] at hcell
            have hst : ∃ v, wr.cell? ⟨w4.heap.size, m, none⟩ = some v := ⟨_, by rw [hX.cellAt m (by omega)]; exact List.getElem?_eq_getElem (by rw [hX.1]; omega)⟩
            obtain ⟨v0, hst⟩ := hst
            have hfr : wr.frozen? ⟨w4.heap.size, m, none⟩ = false := hX.frozenAt m
            have hX2 : Exts w4.heap.size ys (m + 1) (wr.setCell ⟨w4.heap.size, m, none⟩ (.int .u8 (ys.getD m 0))) := by
              unfold Exts
              rw [← ext_step ys m (by omega), List.map_set]
              exact (hX.stored m _).1
            have hBl2 := hBl.setCell (p := ⟨w4.heap.size, m, none⟩) (Nat.le_refl _) (.int .u8 (ys.getD m 0))
            clear hyc hyb hyl hXl hX
            go_wp2
            go_roundw
            case rel => exact ⟨m + 1, by omega, by go_num, by simpa using hX2, by simpa using hBl2⟩
            case measure => simp [intOf]; omega
          · have hmn' : m = n := by omega
            subst hmn'
            have hst : ∃ v, wr.cell? ⟨w4.heap.size, m, none⟩ = some v := ⟨_, by rw [hX.cellAt m (by omega)]; exact List.getElem?_eq_getElem (by rw [hX.1]; omega)⟩
            obtain ⟨v0, hst⟩ := hst
            have hfr : wr.frozen? ⟨w4.heap.size, m, none⟩ = false := hX.frozenAt m
            have hRx : Row (wr.setCell ⟨w4.heap.size, m, none⟩ (.int .u8 y)) w4.heap.size 0 (m + 1) (ys ++ [y]) := by
              refine row_of (base := w4.heap.size) (by simp [hXl]) (fun z hz => ?_) ?_
              · rcases List.mem_append.1 hz with h | h
                · exact hyb z h
                · simp at h; subst h; exact hy
              · have := (hX.stored m (.int .u8 y)).1
                rw [hXl] at this
                rw [← ext_end, hXl, List.map_set]
                exact this
            have hBl2 := hBl.setCell (p := ⟨w4.heap.size, m, none⟩) (Nat.le_refl _) (.int .u8 y)
            have hltx : w4.heap.size < (wr.setCell ⟨w4.heap.size, m, none⟩ (.int .u8 y)).heap.size := by
              rw [World.size_setCell]
              exact (hX.lt _ rfl).2
            clear hyc hyb hyl hXl hX
            go_wp2_with fail
            refine (esc14 w4.heap.size 0 (m + 1) (m + 1) i (ys ++ [y]) _ (by omega) (by omega) hRx hltx).mono ?_
            rintro e w6 ⟨rfl, hb6⟩
            rw [HA.out]
            have hB6 : Below w.heap.size w w6 := (hB4.trans (hBl2.mono (Nat.le_of_lt hlt4))).trans (hb6.mono (by have := hBl2.size; have := hB4.size; omega))
            go_wp2
            go_ret
            exact ⟨by simp, hB6⟩
    · go_wp2
      go_ret
      exact ⟨rfl, Below.refl _ _⟩

set_option maxHeartbeats 1000000 in
theorem walk5_zero (a : Option Addr) (c : Nat) (x y : Int) (w : World) : Calls Try.prog 5 #[.slice a 0 c, .int .i64 x, .int .u8 y] w fun e w' => e = .returned (.bool true) ∧ Below w.heap.size w w' := by
  by_cases hx0 : x < 0
  · go_enter Try.func5, Try.ntmps5
    go_wp2
    go_ret
    exact ⟨rfl, Below.refl _ _⟩
  · go_enter Try.func5, Try.ntmps5
    go_wp2
    go_ret
    exact ⟨rfl, Below.refl _ _⟩

end Go.Proofs.Qxb6600187a.Esc
