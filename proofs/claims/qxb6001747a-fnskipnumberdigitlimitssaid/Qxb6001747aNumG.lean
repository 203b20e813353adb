import Derived.Test.Qxb6001747aNumE
import Derived.Laws.BytesArg
import Derived.Maps.AppendAt
namespace Go.Proofs.Qxb6001747a.Num
open Go.RowKit

theorem info5 : (Try.prog.info? 5).map (fun i => (i.zero, i.size, i.bytes)) = some (some (.int .u8 0), 1, 1) := by kernel_rfl

/-- The whole digits that the law writes; its fraction digits. -/
def Wd (k : Nat) : List Int := (List.range k).map fun (i : Nat) => 48 + (7 * (i : Int) + 3) % 10
def Fd (k : Nat) : List Int := (List.range k).map fun (i : Nat) => 48 + (3 * (i : Int) + 1) % 10
theorem Wd_succ (k : Nat) : Wd (k + 1) = Wd k ++ [48 + (7 * (k : Int) + 3) % 10] := by simp [Wd, List.range_succ]
theorem Fd_succ (k : Nat) : Fd (k + 1) = Fd k ++ [48 + (3 * (k : Int) + 1) % 10] := by simp [Fd, List.range_succ]
theorem Wd_len (k : Nat) : (Wd k).length = k := by simp [Wd]
theorem Fd_len (k : Nat) : (Fd k).length = k := by simp [Fd]
/-- Numbers as bytes. -/
def u8s (l : List Int) : List UInt8 := l.map fun n => UInt8.ofNat n.toNat
theorem u8s_app (a b : List Int) : u8s (a ++ b) = u8s a ++ u8s b := by simp [u8s]
theorem u8s_len (a : List Int) : (u8s a).length = a.length := by simp [u8s]
theorem dig_u8 {n : Int} (h1 : 48 ≤ n) (h2 : n ≤ 57) : dig (UInt8.ofNat n.toNat) = true := by
  unfold dig
  have : (UInt8.ofNat n.toNat).toNat = n.toNat := by simp; omega
  rw [this]
  simp
  omega
theorem Wd_dig (k : Nat) : ∀ c ∈ u8s (Wd k), dig c = true := by
  intro c hc
  simp only [u8s, Wd, List.map_map, List.mem_map, Function.comp] at hc
  obtain ⟨i, _, rfl⟩ := hc
  exact dig_u8 (by omega) (by omega)
theorem Fd_dig (k : Nat) : ∀ c ∈ u8s (Fd k), dig c = true := by
  intro c hc
  simp only [u8s, Fd, List.map_map, List.mem_map, Function.comp] at hc
  obtain ⟨i, _, rfl⟩ := hc
  exact dig_u8 (by omega) (by omega)

/-- 'string(b)' of a row of the call's own. -/
theorem conv_row {w : World} {base : Nat} {v : Value} {zs : List Int} (h : w.ownsRow base 5 1 v zs.length (zs.map (Value.int .u8))) : (convert 28 9 v).run Try.prog w = .ok (.string (B (u8s zs))) w := by
  have hc := h
  rcases h.2 with ⟨rfl, h0⟩ | ⟨g, cap, cur, rfl, _⟩
  · obtain rfl : zs = [] := List.length_eq_zero_iff.1 h0
    exact run_convert_bytes_nil w 28 5 Try.underlying28 Try.underlying5 0 0 9 Try.underlying9
  · exact run_convert_bytes_arg w 28 5 Try.underlying28 Try.underlying5 g 0 zs.length cap zs rfl (fun i hi => by
      rw [Nat.zero_add, hc.cellAt i (by omega)]
      simp [List.getElem?_eq_getElem hi]) 9 Try.underlying9

theorem row_snoc {w : World} {base : Nat} {v : Value} {zs ys : List Int} {x : Int} (h : w.ownsRow base 5 1 v (zs.length + 1) (zs.map (Value.int .u8) ++ [.int .u8 x])) (hy : ys = zs ++ [x]) : w.ownsRow base 5 1 v ys.length (ys.map (Value.int .u8)) := by
  subst hy
  simpa using h

/-- The head of a tail that cannot continue a number. -/
def Ends (t : List UInt8) : Prop := nodig t ∧ t.head? ≠ some 46 ∧ nominus t

theorem sign_or {sg ws r : List UInt8} (hs : sg = [] ∨ sg = [45]) (h : nominus r) : sg = [45] ∨ (sg = [] ∧ (ws = [] → nominus r)) := by
  rcases hs with h1 | h1
  · exact .inr ⟨h1, fun _ => h⟩
  · exact .inl h1
theorem sk_int {sg t : List UInt8} {n : Nat} (hs : sg = [] ∨ sg = [45]) (ht : Ends t) : sk (sg ++ (u8s (Wd n) ++ t)) = if n = 0 ∨ 15 < n then none else some (t, false) := by
  rw [sk_at (sign_or hs ht.2.2) (Wd_dig n) ht.1, u8s_len, Wd_len]
  by_cases h0 : n = 0
  · simp [h0]
  · rw [if_neg h0]
    cases t with
    | nil => simp [sk2, h0]
    | cons c t =>
      have hc : c ≠ 46 := by have := ht.2.1; simpa using this
      simp [sk2, hc, h0]

theorem sk_dec {sg t : List UInt8} {n m : Nat} (hs : sg = [] ∨ sg = [45]) (ht : Ends t) : sk (sg ++ (u8s (Wd n) ++ (46 :: (u8s (Fd m) ++ t)))) = if n = 0 ∨ 12 < n ∨ m = 0 ∨ 3 < m then none else some (t, true) := by
  rw [sk_at (sign_or hs (show nominus (46 :: (u8s (Fd m) ++ t)) from (by decide : (46 : UInt8) ≠ 45))) (Wd_dig n) dig46, u8s_len, Wd_len]
  by_cases h0 : n = 0
  · simp [h0]
  · rw [if_neg h0]
    simp only [sk2, if_true]
    rw [nd_app _ t (Fd_dig m) ht.1, u8s_len, Fd_len]
    by_cases h1 : 12 < n ∨ m = 0 ∨ 3 < m
    · rw [if_pos h1, if_pos (.inr h1)]
    · rw [if_neg h1, if_neg (by omega)]
      congr 2
      have hm : (u8s (Fd m)).length = m := by rw [u8s_len, Fd_len]
      have := List.drop_left (l₁ := u8s (Fd m)) (l₂ := t)
      rwa [hm] at this

set_option maxRecDepth 20000 in
set_option maxHeartbeats 8000000 in
theorem walk5 (ng : Bool) (x y : Int) (t : List UInt8) (w : World) : Calls Try.prog 5 #[.bool ng, .int .i64 x, .int .i64 y, .string (B t)] w fun e w' => e = .returned (.bool true) ∧ Below w.heap.size w w' := by
  obtain ⟨i5, hi5, hz50, hz51, hz52⟩ := info_parts info5
  have hl := B_size t
  have Hl : Hid ((B t).size = t.length) := hl
  clear hl
  go_enter Try.func5, Try.ntmps5
  go_wp2_with fail
  refine (bytes13 ng x y t w).mono ?_
  rintro e w' ⟨⟨r, rfl, hr⟩, rfl⟩
  cases r with
  | false =>
    go_wp2
    go_ret
    exact ⟨rfl, Below.refl _ _⟩
  | true =>
    have hS : t.length ≤ 1048576 := hr rfl
    clear hr
    have g1 : (B t).size ≤ 1048576 := by have := Hl.out; omega
    by_cases hx0 : x < 0
    · go_wp2
      go_ret
      exact ⟨rfl, Below.refl _ _⟩
    by_cases hx1 : 64 < x
    · go_wp2
      go_ret
      exact ⟨rfl, Below.refl _ _⟩
    by_cases hy0 : y < -1
    · go_wp2
      go_ret
      exact ⟨rfl, Below.refl _ _⟩
    by_cases hy1 : 64 < y
    · go_wp2
      go_ret
      exact ⟨rfl, Below.refl _ _⟩
    obtain ⟨n, rfl⟩ := Int.eq_ofNat_of_zero_le (show 0 ≤ x by omega)
    have hb1 : decide ((n : Int) < 0) = false := by simp
    have hb2 : decide (64 < (n : Int)) = false := by simp; omega
    have hb3 : decide (y < -1) = false := by simp; omega
    have hb4 : decide (64 < y) = false := by simp; omega
    have hn64 : n ≤ 64 := by omega
    clear hx0 hx1
    have hc : ((B t).size = 0 ∧ Ends t) ∨ ∃ h : 0 < (B t).size, (isd ((B t)[0].toNat : Int) = true) ∨ (isd ((B t)[0].toNat : Int) = false ∧ (((B t)[0].toNat : Int) == 46) = true) ∨
        (isd ((B t)[0].toNat : Int) = false ∧ (((B t)[0].toNat : Int) == 46) = false ∧ (((B t)[0].toNat : Int) == 45) = true) ∨
        (isd ((B t)[0].toNat : Int) = false ∧ (((B t)[0].toNat : Int) == 46) = false ∧ (((B t)[0].toNat : Int) == 45) = false ∧ Ends t) := by
      by_cases hz : (B t).size = 0
      · obtain rfl : t = [] := List.length_eq_zero_iff.1 (by have := Hl.out; omega)
        exact .inl ⟨hz, trivial, by simp, trivial⟩
      · right
        have hz1 : 0 < (B t).size := by omega
        obtain ⟨q, hq⟩ := B_head t hz1
        refine ⟨hz1, ?_⟩
        have hdg := isd_dig (B t)[0]
        generalize (B t)[0] = c at *
        cases h1 : isd (c.toNat : Int)
        · right
          cases h2 : ((c.toNat : Int) == 46)
          · right
            cases h3 : ((c.toNat : Int) == 45)
            · right
              refine ⟨rfl, rfl, rfl, ?_⟩
              subst hq
              rw [h1] at hdg
              refine ⟨hdg.symm, fun e => ?_, fun e => ?_⟩
              · simp at e
                rw [e] at h2
                exact absurd h2 (by decide)
              · rw [e] at h3
                exact absurd h3 (by decide)
            · exact .inl ⟨rfl, rfl, rfl⟩
          · exact .inl ⟨rfl, rfl⟩
        · exact .inl rfl
    have hcap : ∃ c : Nat, (n : Int) + y + 3 = (c : Int) ∧ c ≤ 131 := ⟨((n : Int) + y + 3).toNat, by omega, by omega⟩
    obtain ⟨c, hcap, hc131⟩ := hcap
    have HC : Hid ((n : Int) + y + 3 = (c : Int)) := hcap
    clear hcap
    rcases hc with ⟨hz, he⟩ | ⟨hz, h1 | ⟨h1, h2⟩ | ⟨h1, h2, h3⟩ | ⟨h1, h2, h3, he⟩⟩
    rotate_left
    · go_wp2_with (go_at_call 11; refine (digit11 _ _).mono ?_; rintro e wz ⟨rfl, rfl⟩)
      go_ret
      exact ⟨rfl, Below.refl _ _⟩
    · go_wp2_with (go_at_call 11; refine (digit11 _ _).mono ?_; rintro e wz ⟨rfl, rfl⟩)
      go_ret
      exact ⟨rfl, Below.refl _ _⟩
    · go_wp2_with (go_at_call 11; refine (digit11 _ _).mono ?_; rintro e wz ⟨rfl, rfl⟩)
      go_ret
      exact ⟨rfl, Below.refl _ _⟩
    all_goals
      have HE : Hid (Ends t) := he
      clear he
      by_cases hym : y = -1
      · subst hym
        cases ng
        · skip
          go_wp2_with (first | (go_at_call 11; refine (digit11 _ _).mono ?_; rintro e wz ⟨rfl, rfl⟩) | (at_make; refine wpList_make_own _ rfl _ _ 28 rfl w'.heap.size 5 i5 (.int .u8 0) 1 Try.underlying28 hi5 hz50 hz51 _ _ _ c rfl rfl HC.out (by rw [hz52]; omega) (by unfold maxLen; omega) (Nat.le_refl _) ?_; intro w1 hown1 hgrow1; have hw1 : w'.heap.size ≤ w1.heap.size := hgrow1.size))
          have hbA : Below w'.heap.size w' w1 := (Below.refl _ _).grown hgrow1 (Nat.le_refl _) (by simp)
          have hrowA : w1.ownsRow w'.heap.size 5 1 (.slice (some ⟨w'.heap.size, 0, none⟩) 0 c) (([] : List Int) ++ Wd 0).length ((([] : List Int) ++ Wd 0).map (Value.int .u8)) := hown1
          go_loopw [9, 10] (fun v i wr => ∃ k : Nat, k ≤ n ∧ i = .int .i64 k ∧ wr.ownsRow w'.heap.size 5 1 v ((([] : List Int) : List Int) ++ Wd k).length (((([] : List Int) : List Int) ++ Wd k).map (Value.int .u8)) ∧ Below w'.heap.size w' wr) (fun _ i _ => n - (intOf i).toNat)
          case atStart => exact ⟨0, Nat.zero_le _, rfl, hrowA, hbA⟩
          case round =>
            clear hrowA hbA hown1 hgrow1 hw1 
            rename World => wo
            obtain ⟨k, hk, rfl, hrow, hbel⟩ := hrel
            have hws : w'.heap.size ≤ wo.heap.size := hbel.size
            by_cases hkn : k < n
            · have HWS : Hid ((([] : List Int) : List Int) ++ Wd (k + 1) = ((([] : List Int) : List Int) ++ Wd k) ++ [48 + (7 * (k : Int) + 3) % 10]) := by show _ = _; rw [Wd_succ, List.append_assoc]
              have hWl : ((([] : List Int) : List Int) ++ Wd k).length ≤ 100 := by rw [List.length_append, Wd_len]; simp; omega
              generalize (([] : List Int) : List Int) ++ Wd k = zs at *
              go_wp2_with (at_builtin; refine wpList_append_own_at _ rfl _ _ 28 rfl w'.heap.size 5 i5 (.int .u8 0) 1 1 Try.underlying28 hi5 hz50 hz51 hz52 rfl (by decide) _ _ _ rfl (hrow.alloc _) ⟨wo.heap.size, 0, none⟩ 1 1 [.int .u8 (48 + (7 * (k : Int) + 3) % 10)] rfl rfl (cell_one_new _ _ _) (by simp [Value.oneCell']) (by unfold maxLen; omega) (by omega) (by simp; omega) ?_; intro v3 w3 hown3 hgrow3 hnil3 hloc3)
              have hb3 : Below w'.heap.size w' w3 := (hbel.alloc hws _).grown hgrow3 (by simp; omega) (fun i hi => (hrow.lt i hi).1)
              go_roundw
              case rel => exact ⟨k + 1, by omega, by go_num, row_snoc hown3 HWS.out, hb3⟩
              case measure => simp [intOf]; omega
            · have hkn' : k = n := by omega
              subst hkn'
              have hcv := conv_row hrow
              have hZl : (u8s ((([] : List Int) : List Int) ++ Wd k)).length ≤ 100 := by rw [u8s_len, List.length_append, Wd_len]; simp; omega
              have HSK : Hid (sk (u8s ((([] : List Int) : List Int) ++ Wd k) ++ t) = if k = 0 ∨ 15 < k then none else some (t, false)) := by
                have := sk_int (sg := []) (n := k) (by simp) HE.out
                rw [u8s_app, List.append_assoc]
                exact this
              clear hrow
              generalize u8s ((([] : List Int) : List Int) ++ Wd k) = q at *
              have hap := B_app q t
              have hsq : (B q).size ≤ 100 := by rw [B_size]; exact hZl
              have hLt : (q ++ t).length ≤ 1048676 := by rw [List.length_append]; omega
              go_wp2_with fail
              refine (skipZ9 (q ++ t) _ (by omega)).mono ?_
              rintro e w4 ⟨hb4, hm4⟩
              have hbb : Below w'.heap.size w' w4 := hbel.trans (hb4.mono hws)
              rw [HSK.out] at hm4
              clear HSK hap hcv
              by_cases ha : k = 0 ∨ 15 < k
              · rw [if_pos ha] at hm4
                simp only at hm4
                subst hm4
                rcases ha with ha | ha
                · subst ha
                  go_wp2
                  go_ret
                  exact ⟨rfl, hbb⟩
                · have hk1 : 1 ≤ k := by omega
                  have hk15 : decide ((k : Int) ≤ 15) = false := by simp; omega
                  go_wp2
                  go_ret
                  exact ⟨rfl, hbb⟩
              · rw [if_neg ha] at hm4
                simp only at hm4
                subst hm4
                have hk1 : 1 ≤ k := by omega
                have hk15 : decide ((k : Int) ≤ 15) = true := by simp; omega
                go_wp2
                go_ret
                exact ⟨by simp, hbb⟩
        · skip
          go_wp2_with (first | (go_at_call 11; refine (digit11 _ _).mono ?_; rintro e wz ⟨rfl, rfl⟩) | (at_make; refine wpList_make_own _ rfl _ _ 28 rfl w'.heap.size 5 i5 (.int .u8 0) 1 Try.underlying28 hi5 hz50 hz51 _ _ _ c rfl rfl HC.out (by rw [hz52]; omega) (by unfold maxLen; omega) (Nat.le_refl _) ?_; intro w1 hown1 hgrow1; have hw1 : w'.heap.size ≤ w1.heap.size := hgrow1.size) | (at_builtin; refine wpList_append_own_at _ rfl _ _ 28 rfl w'.heap.size 5 i5 (.int .u8 0) 1 1 Try.underlying28 hi5 hz50 hz51 hz52 rfl (by decide) _ _ _ rfl (hown1.alloc _) ⟨w1.heap.size, 0, none⟩ 1 1 [.int .u8 45] rfl rfl (cell_one_new _ _ _) (by simp [Value.oneCell']) (by unfold maxLen; omega) (by omega) (by simp; omega) ?_; intro v2 w2 hown2 hgrow2 hnil2 hloc2))
          have hbA : Below w'.heap.size w' w2 := (((Below.refl _ _).grown hgrow1 (Nat.le_refl _) (by simp)).alloc hw1 _).grown hgrow2 (by simp; omega) (fun i hi => (hown1.lt i hi).1)
          have hrowA : w2.ownsRow w'.heap.size 5 1 v2 (([45] : List Int) ++ Wd 0).length ((([45] : List Int) ++ Wd 0).map (Value.int .u8)) := hown2
          go_loopw [9, 10] (fun v i wr => ∃ k : Nat, k ≤ n ∧ i = .int .i64 k ∧ wr.ownsRow w'.heap.size 5 1 v (([45] : List Int) ++ Wd k).length ((([45] : List Int) ++ Wd k).map (Value.int .u8)) ∧ Below w'.heap.size w' wr) (fun _ i _ => n - (intOf i).toNat)
          case atStart => exact ⟨0, Nat.zero_le _, rfl, hrowA, hbA⟩
          case round =>
            clear hrowA hbA hown1 hgrow1 hw1 hown2 hgrow2 hnil2 hloc2
            rename World => wo
            obtain ⟨k, hk, rfl, hrow, hbel⟩ := hrel
            have hws : w'.heap.size ≤ wo.heap.size := hbel.size
            by_cases hkn : k < n
            · have HWS : Hid (([45] : List Int) ++ Wd (k + 1) = (([45] : List Int) ++ Wd k) ++ [48 + (7 * (k : Int) + 3) % 10]) := by show _ = _; rw [Wd_succ, List.append_assoc]
              have hWl : (([45] : List Int) ++ Wd k).length ≤ 100 := by rw [List.length_append, Wd_len]; simp; omega
              generalize ([45] : List Int) ++ Wd k = zs at *
              go_wp2_with (at_builtin; refine wpList_append_own_at _ rfl _ _ 28 rfl w'.heap.size 5 i5 (.int .u8 0) 1 1 Try.underlying28 hi5 hz50 hz51 hz52 rfl (by decide) _ _ _ rfl (hrow.alloc _) ⟨wo.heap.size, 0, none⟩ 1 1 [.int .u8 (48 + (7 * (k : Int) + 3) % 10)] rfl rfl (cell_one_new _ _ _) (by simp [Value.oneCell']) (by unfold maxLen; omega) (by omega) (by simp; omega) ?_; intro v3 w3 hown3 hgrow3 hnil3 hloc3)
              have hb3 : Below w'.heap.size w' w3 := (hbel.alloc hws _).grown hgrow3 (by simp; omega) (fun i hi => (hrow.lt i hi).1)
              go_roundw
              case rel => exact ⟨k + 1, by omega, by go_num, row_snoc hown3 HWS.out, hb3⟩
              case measure => simp [intOf]; omega
            · have hkn' : k = n := by omega
              subst hkn'
              have hcv := conv_row hrow
              have hZl : (u8s (([45] : List Int) ++ Wd k)).length ≤ 100 := by rw [u8s_len, List.length_append, Wd_len]; simp; omega
              have HSK : Hid (sk (u8s (([45] : List Int) ++ Wd k) ++ t) = if k = 0 ∨ 15 < k then none else some (t, false)) := by
                have := sk_int (sg := [45]) (n := k) (by simp) HE.out
                rw [u8s_app, List.append_assoc]
                exact this
              clear hrow
              generalize u8s (([45] : List Int) ++ Wd k) = q at *
              have hap := B_app q t
              have hsq : (B q).size ≤ 100 := by rw [B_size]; exact hZl
              have hLt : (q ++ t).length ≤ 1048676 := by rw [List.length_append]; omega
              go_wp2_with fail
              refine (skipZ9 (q ++ t) _ (by omega)).mono ?_
              rintro e w4 ⟨hb4, hm4⟩
              have hbb : Below w'.heap.size w' w4 := hbel.trans (hb4.mono hws)
              rw [HSK.out] at hm4
              clear HSK hap hcv
              by_cases ha : k = 0 ∨ 15 < k
              · rw [if_pos ha] at hm4
                simp only at hm4
                subst hm4
                rcases ha with ha | ha
                · subst ha
                  go_wp2
                  go_ret
                  exact ⟨rfl, hbb⟩
                · have hk1 : 1 ≤ k := by omega
                  have hk15 : decide ((k : Int) ≤ 15) = false := by simp; omega
                  go_wp2
                  go_ret
                  exact ⟨rfl, hbb⟩
              · rw [if_neg ha] at hm4
                simp only at hm4
                subst hm4
                have hk1 : 1 ≤ k := by omega
                have hk15 : decide ((k : Int) ≤ 15) = true := by simp; omega
                go_wp2
                go_ret
                exact ⟨by simp, hbb⟩
      · obtain ⟨m, rfl⟩ := Int.eq_ofNat_of_zero_le (show 0 ≤ y by omega)
        have hm64 : m ≤ 64 := by omega
        clear hym
        cases ng
        · skip
          go_wp2_with (first | (go_at_call 11; refine (digit11 _ _).mono ?_; rintro e wz ⟨rfl, rfl⟩) | (at_make; refine wpList_make_own _ rfl _ _ 28 rfl w'.heap.size 5 i5 (.int .u8 0) 1 Try.underlying28 hi5 hz50 hz51 _ _ _ c rfl rfl HC.out (by rw [hz52]; omega) (by unfold maxLen; omega) (Nat.le_refl _) ?_; intro w1 hown1 hgrow1; have hw1 : w'.heap.size ≤ w1.heap.size := hgrow1.size))
          have hbA : Below w'.heap.size w' w1 := (Below.refl _ _).grown hgrow1 (Nat.le_refl _) (by simp)
          have hrowA : w1.ownsRow w'.heap.size 5 1 (.slice (some ⟨w'.heap.size, 0, none⟩) 0 c) (([] : List Int) ++ Wd 0).length ((([] : List Int) ++ Wd 0).map (Value.int .u8)) := hown1
          go_loopw [9, 10] (fun v i wr => ∃ k : Nat, k ≤ n ∧ i = .int .i64 k ∧ wr.ownsRow w'.heap.size 5 1 v ((([] : List Int) : List Int) ++ Wd k).length (((([] : List Int) : List Int) ++ Wd k).map (Value.int .u8)) ∧ Below w'.heap.size w' wr) (fun _ i _ => n - (intOf i).toNat)
          case atStart => exact ⟨0, Nat.zero_le _, rfl, hrowA, hbA⟩
          case round =>
            clear hrowA hbA hown1 hgrow1 hw1 
            rename World => wo
            obtain ⟨k, hk, rfl, hrow, hbel⟩ := hrel
            have hws : w'.heap.size ≤ wo.heap.size := hbel.size
            by_cases hkn : k < n
            · have HWS : Hid ((([] : List Int) : List Int) ++ Wd (k + 1) = ((([] : List Int) : List Int) ++ Wd k) ++ [48 + (7 * (k : Int) + 3) % 10]) := by show _ = _; rw [Wd_succ, List.append_assoc]
              have hWl : ((([] : List Int) : List Int) ++ Wd k).length ≤ 100 := by rw [List.length_append, Wd_len]; simp; omega
              generalize (([] : List Int) : List Int) ++ Wd k = zs at *
              go_wp2_with (at_builtin; refine wpList_append_own_at _ rfl _ _ 28 rfl w'.heap.size 5 i5 (.int .u8 0) 1 1 Try.underlying28 hi5 hz50 hz51 hz52 rfl (by decide) _ _ _ rfl (hrow.alloc _) ⟨wo.heap.size, 0, none⟩ 1 1 [.int .u8 (48 + (7 * (k : Int) + 3) % 10)] rfl rfl (cell_one_new _ _ _) (by simp [Value.oneCell']) (by unfold maxLen; omega) (by omega) (by simp; omega) ?_; intro v3 w3 hown3 hgrow3 hnil3 hloc3)
              have hb3 : Below w'.heap.size w' w3 := (hbel.alloc hws _).grown hgrow3 (by simp; omega) (fun i hi => (hrow.lt i hi).1)
              go_roundw
              case rel => exact ⟨k + 1, by omega, by go_num, row_snoc hown3 HWS.out, hb3⟩
              case measure => simp [intOf]; omega
            · have hkn' : k = n := by omega
              subst hkn'
              have hWl : ((([] : List Int) : List Int) ++ Wd k).length ≤ 100 := by rw [List.length_append, Wd_len]; simp; omega
              have HSK : Hid (∀ j, sk (u8s (((([] : List Int) : List Int) ++ Wd k ++ [46]) ++ Fd j) ++ t) = if k = 0 ∨ 12 < k ∨ j = 0 ∨ 3 < j then none else some (t, true)) := fun j => by
                have := sk_dec (sg := []) (n := k) (m := j) (by simp) HE.out
                rw [← this, u8s_app, u8s_app, u8s_app]
                simp [u8s]
              generalize (([] : List Int) : List Int) ++ Wd k = zs at *
              go_wp2_with (at_builtin; refine wpList_append_own_at _ rfl _ _ 28 rfl w'.heap.size 5 i5 (.int .u8 0) 1 1 Try.underlying28 hi5 hz50 hz51 hz52 rfl (by decide) _ _ _ rfl (hrow.alloc _) ⟨wo.heap.size, 0, none⟩ 1 1 [.int .u8 46] rfl rfl (cell_one_new _ _ _) (by simp [Value.oneCell']) (by unfold maxLen; omega) (by omega) (by simp; omega) ?_; intro v5 w5 hown5 hgrow5 hnil5 hloc5)
              have hb5 : Below w'.heap.size w' w5 := (hbel.alloc hws _).grown hgrow5 (by simp; omega) (fun i hi => (hrow.lt i hi).1)
              have hrow5 : w5.ownsRow w'.heap.size 5 1 v5 ((zs ++ [46]) ++ Fd 0).length (((zs ++ [46]) ++ Fd 0).map (Value.int .u8)) := row_snoc hown5 (by simp [Fd])
              have hWl5 : (zs ++ [46]).length ≤ 101 := by simp; omega
              clear hrow hbel hws hgrow5 hown5 hnil5 hloc5 hWl
              generalize zs ++ [46] = ys at *
              go_loopw [9, 11] (fun v i wr => ∃ j : Nat, j ≤ m ∧ i = .int .i64 j ∧ wr.ownsRow w'.heap.size 5 1 v (ys ++ Fd j).length ((ys ++ Fd j).map (Value.int .u8)) ∧ Below w'.heap.size w' wr) (fun _ i _ => m - (intOf i).toNat)
              case atStart => exact ⟨0, Nat.zero_le _, rfl, hrow5, hb5⟩
              case round =>
                clear hrow5 hb5
                rename World => wp
                obtain ⟨j, hj, rfl, hrow, hbel⟩ := hrel
                have hws : w'.heap.size ≤ wp.heap.size := hbel.size
                by_cases hjm : j < m
                · have HFS : Hid (ys ++ Fd (j + 1) = (ys ++ Fd j) ++ [48 + (3 * (j : Int) + 1) % 10]) := by show _ = _; rw [Fd_succ, List.append_assoc]
                  have hFl : (ys ++ Fd j).length ≤ 200 := by rw [List.length_append, Fd_len]; omega
                  generalize ys ++ Fd j = zs2 at *
                  go_wp2_with (at_builtin; refine wpList_append_own_at _ rfl _ _ 28 rfl w'.heap.size 5 i5 (.int .u8 0) 1 1 Try.underlying28 hi5 hz50 hz51 hz52 rfl (by decide) _ _ _ rfl (hrow.alloc _) ⟨wp.heap.size, 0, none⟩ 1 1 [.int .u8 (48 + (3 * (j : Int) + 1) % 10)] rfl rfl (cell_one_new _ _ _) (by simp [Value.oneCell']) (by unfold maxLen; omega) (by omega) (by simp; omega) ?_; intro v6 w6 hown6 hgrow6 hnil6 hloc6)
                  have hb6 : Below w'.heap.size w' w6 := (hbel.alloc hws _).grown hgrow6 (by simp; omega) (fun i hi => (hrow.lt i hi).1)
                  go_roundw
                  case rel => exact ⟨j + 1, by omega, by go_num, row_snoc hown6 HFS.out, hb6⟩
                  case measure => simp [intOf]; omega
                · have hjm' : j = m := by omega
                  subst hjm'
                  have hcv := conv_row hrow
                  have hZl : (u8s (ys ++ Fd j)).length ≤ 200 := by rw [u8s_len, List.length_append, Fd_len]; omega
                  have HSK2 := HSK.out j
                  clear hrow HSK
                  generalize u8s (ys ++ Fd j) = q at *
                  have HSK : Hid (sk (q ++ t) = if k = 0 ∨ 12 < k ∨ j = 0 ∨ 3 < j then none else some (t, true)) := HSK2
                  clear HSK2
                  have hap := B_app q t
                  have hsq : (B q).size ≤ 200 := by rw [B_size]; exact hZl
                  have hLt : (q ++ t).length ≤ 1048776 := by rw [List.length_append]; omega
                  go_wp2_with fail
                  refine (skipZ9 (q ++ t) _ (by omega)).mono ?_
                  rintro e w4 ⟨hb4, hm4⟩
                  have hbb : Below w'.heap.size w' w4 := hbel.trans (hb4.mono hws)
                  rw [HSK.out] at hm4
                  clear HSK hap hcv
                  by_cases ha : k = 0 ∨ 12 < k ∨ j = 0 ∨ 3 < j
                  · rw [if_pos ha] at hm4
                    simp only at hm4
                    subst hm4
                    by_cases hk0 : k = 0
                    · subst hk0
                      go_wp2
                      go_ret
                      exact ⟨rfl, hbb⟩
                    · have hk1 : 1 ≤ k := by omega
                      by_cases hk12 : 12 < k
                      · have hk12' : decide ((k : Int) ≤ 12) = false := by simp; omega
                        go_wp2
                        go_ret
                        exact ⟨rfl, hbb⟩
                      · have hk12' : k ≤ 12 := by omega
                        by_cases hj0 : j = 0
                        · subst hj0
                          go_wp2
                          go_ret
                          exact ⟨rfl, hbb⟩
                        · have hj1 : 1 ≤ j := by omega
                          have hj3 : decide ((j : Int) ≤ 3) = false := by simp; omega
                          go_wp2
                          go_ret
                          exact ⟨rfl, hbb⟩
                  · rw [if_neg ha] at hm4
                    simp only at hm4
                    subst hm4
                    have hk1 : 1 ≤ k := by omega
                    have hk12 : k ≤ 12 := by omega
                    have hj1 : 1 ≤ j := by omega
                    have hj3 : decide ((j : Int) ≤ 3) = true := by simp; omega
                    go_wp2
                    go_ret
                    exact ⟨by simp, hbb⟩
        · skip
          go_wp2_with (first | (go_at_call 11; refine (digit11 _ _).mono ?_; rintro e wz ⟨rfl, rfl⟩) | (at_make; refine wpList_make_own _ rfl _ _ 28 rfl w'.heap.size 5 i5 (.int .u8 0) 1 Try.underlying28 hi5 hz50 hz51 _ _ _ c rfl rfl HC.out (by rw [hz52]; omega) (by unfold maxLen; omega) (Nat.le_refl _) ?_; intro w1 hown1 hgrow1; have hw1 : w'.heap.size ≤ w1.heap.size := hgrow1.size) | (at_builtin; refine wpList_append_own_at _ rfl _ _ 28 rfl w'.heap.size 5 i5 (.int .u8 0) 1 1 Try.underlying28 hi5 hz50 hz51 hz52 rfl (by decide) _ _ _ rfl (hown1.alloc _) ⟨w1.heap.size, 0, none⟩ 1 1 [.int .u8 45] rfl rfl (cell_one_new _ _ _) (by simp [Value.oneCell']) (by unfold maxLen; omega) (by omega) (by simp; omega) ?_; intro v2 w2 hown2 hgrow2 hnil2 hloc2))
          have hbA : Below w'.heap.size w' w2 := (((Below.refl _ _).grown hgrow1 (Nat.le_refl _) (by simp)).alloc hw1 _).grown hgrow2 (by simp; omega) (fun i hi => (hown1.lt i hi).1)
          have hrowA : w2.ownsRow w'.heap.size 5 1 v2 (([45] : List Int) ++ Wd 0).length ((([45] : List Int) ++ Wd 0).map (Value.int .u8)) := hown2
          go_loopw [9, 10] (fun v i wr => ∃ k : Nat, k ≤ n ∧ i = .int .i64 k ∧ wr.ownsRow w'.heap.size 5 1 v (([45] : List Int) ++ Wd k).length ((([45] : List Int) ++ Wd k).map (Value.int .u8)) ∧ Below w'.heap.size w' wr) (fun _ i _ => n - (intOf i).toNat)
          case atStart => exact ⟨0, Nat.zero_le _, rfl, hrowA, hbA⟩
          case round =>
            clear hrowA hbA hown1 hgrow1 hw1 hown2 hgrow2 hnil2 hloc2
            rename World => wo
            obtain ⟨k, hk, rfl, hrow, hbel⟩ := hrel
            have hws : w'.heap.size ≤ wo.heap.size := hbel.size
            by_cases hkn : k < n
            · have HWS : Hid (([45] : List Int) ++ Wd (k + 1) = (([45] : List Int) ++ Wd k) ++ [48 + (7 * (k : Int) + 3) % 10]) := by show _ = _; rw [Wd_succ, List.append_assoc]
              have hWl : (([45] : List Int) ++ Wd k).length ≤ 100 := by rw [List.length_append, Wd_len]; simp; omega
              generalize ([45] : List Int) ++ Wd k = zs at *
              go_wp2_with (at_builtin; refine wpList_append_own_at _ rfl _ _ 28 rfl w'.heap.size 5 i5 (.int .u8 0) 1 1 Try.underlying28 hi5 hz50 hz51 hz52 rfl (by decide) _ _ _ rfl (hrow.alloc _) ⟨wo.heap.size, 0, none⟩ 1 1 [.int .u8 (48 + (7 * (k : Int) + 3) % 10)] rfl rfl (cell_one_new _ _ _) (by simp [Value.oneCell']) (by unfold maxLen; omega) (by omega) (by simp; omega) ?_; intro v3 w3 hown3 hgrow3 hnil3 hloc3)
              have hb3 : Below w'.heap.size w' w3 := (hbel.alloc hws _).grown hgrow3 (by simp; omega) (fun i hi => (hrow.lt i hi).1)
              go_roundw
              case rel => exact ⟨k + 1, by omega, by go_num, row_snoc hown3 HWS.out, hb3⟩
              case measure => simp [intOf]; omega
            · have hkn' : k = n := by omega
              subst hkn'
              have hWl : (([45] : List Int) ++ Wd k).length ≤ 100 := by rw [List.length_append, Wd_len]; simp; omega
              have HSK : Hid (∀ j, sk (u8s ((([45] : List Int) ++ Wd k ++ [46]) ++ Fd j) ++ t) = if k = 0 ∨ 12 < k ∨ j = 0 ∨ 3 < j then none else some (t, true)) := fun j => by
                have := sk_dec (sg := [45]) (n := k) (m := j) (by simp) HE.out
                rw [← this, u8s_app, u8s_app, u8s_app]
                simp [u8s]
              generalize ([45] : List Int) ++ Wd k = zs at *
              go_wp2_with (at_builtin; refine wpList_append_own_at _ rfl _ _ 28 rfl w'.heap.size 5 i5 (.int .u8 0) 1 1 Try.underlying28 hi5 hz50 hz51 hz52 rfl (by decide) _ _ _ rfl (hrow.alloc _) ⟨wo.heap.size, 0, none⟩ 1 1 [.int .u8 46] rfl rfl (cell_one_new _ _ _) (by simp [Value.oneCell']) (by unfold maxLen; omega) (by omega) (by simp; omega) ?_; intro v5 w5 hown5 hgrow5 hnil5 hloc5)
              have hb5 : Below w'.heap.size w' w5 := (hbel.alloc hws _).grown hgrow5 (by simp; omega) (fun i hi => (hrow.lt i hi).1)
              have hrow5 : w5.ownsRow w'.heap.size 5 1 v5 ((zs ++ [46]) ++ Fd 0).length (((zs ++ [46]) ++ Fd 0).map (Value.int .u8)) := row_snoc hown5 (by simp [Fd])
              have hWl5 : (zs ++ [46]).length ≤ 101 := by simp; omega
              clear hrow hbel hws hgrow5 hown5 hnil5 hloc5 hWl
              generalize zs ++ [46] = ys at *
              go_loopw [9, 11] (fun v i wr => ∃ j : Nat, j ≤ m ∧ i = .int .i64 j ∧ wr.ownsRow w'.heap.size 5 1 v (ys ++ Fd j).length ((ys ++ Fd j).map (Value.int .u8)) ∧ Below w'.heap.size w' wr) (fun _ i _ => m - (intOf i).toNat)
              case atStart => exact ⟨0, Nat.zero_le _, rfl, hrow5, hb5⟩
              case round =>
                clear hrow5 hb5
                rename World => wp
                obtain ⟨j, hj, rfl, hrow, hbel⟩ := hrel
                have hws : w'.heap.size ≤ wp.heap.size := hbel.size
                by_cases hjm : j < m
                · have HFS : Hid (ys ++ Fd (j + 1) = (ys ++ Fd j) ++ [48 + (3 * (j : Int) + 1) % 10]) := by show _ = _; rw [Fd_succ, List.append_assoc]
                  have hFl : (ys ++ Fd j).length ≤ 200 := by rw [List.length_append, Fd_len]; omega
                  generalize ys ++ Fd j = zs2 at *
                  go_wp2_with (at_builtin; refine wpList_append_own_at _ rfl _ _ 28 rfl w'.heap.size 5 i5 (.int .u8 0) 1 1 Try.underlying28 hi5 hz50 hz51 hz52 rfl (by decide) _ _ _ rfl (hrow.alloc _) ⟨wp.heap.size, 0, none⟩ 1 1 [.int .u8 (48 + (3 * (j : Int) + 1) % 10)] rfl rfl (cell_one_new _ _ _) (by simp [Value.oneCell']) (by unfold maxLen; omega) (by omega) (by simp; omega) ?_; intro v6 w6 hown6 hgrow6 hnil6 hloc6)
                  have hb6 : Below w'.heap.size w' w6 := (hbel.alloc hws _).grown hgrow6 (by simp; omega) (fun i hi => (hrow.lt i hi).1)
                  go_roundw
                  case rel => exact ⟨j + 1, by omega, by go_num, row_snoc hown6 HFS.out, hb6⟩
                  case measure => simp [intOf]; omega
                · have hjm' : j = m := by omega
                  subst hjm'
                  have hcv := conv_row hrow
                  have hZl : (u8s (ys ++ Fd j)).length ≤ 200 := by rw [u8s_len, List.length_append, Fd_len]; omega
                  have HSK2 := HSK.out j
                  clear hrow HSK
                  generalize u8s (ys ++ Fd j) = q at *
                  have HSK : Hid (sk (q ++ t) = if k = 0 ∨ 12 < k ∨ j = 0 ∨ 3 < j then none else some (t, true)) := HSK2
                  clear HSK2
                  have hap := B_app q t
                  have hsq : (B q).size ≤ 200 := by rw [B_size]; exact hZl
                  have hLt : (q ++ t).length ≤ 1048776 := by rw [List.length_append]; omega
                  go_wp2_with fail
                  refine (skipZ9 (q ++ t) _ (by omega)).mono ?_
                  rintro e w4 ⟨hb4, hm4⟩
                  have hbb : Below w'.heap.size w' w4 := hbel.trans (hb4.mono hws)
                  rw [HSK.out] at hm4
                  clear HSK hap hcv
                  by_cases ha : k = 0 ∨ 12 < k ∨ j = 0 ∨ 3 < j
                  · rw [if_pos ha] at hm4
                    simp only at hm4
                    subst hm4
                    by_cases hk0 : k = 0
                    · subst hk0
                      go_wp2
                      go_ret
                      exact ⟨rfl, hbb⟩
                    · have hk1 : 1 ≤ k := by omega
                      by_cases hk12 : 12 < k
                      · have hk12' : decide ((k : Int) ≤ 12) = false := by simp; omega
                        go_wp2
                        go_ret
                        exact ⟨rfl, hbb⟩
                      · have hk12' : k ≤ 12 := by omega
                        by_cases hj0 : j = 0
                        · subst hj0
                          go_wp2
                          go_ret
                          exact ⟨rfl, hbb⟩
                        · have hj1 : 1 ≤ j := by omega
                          have hj3 : decide ((j : Int) ≤ 3) = false := by simp; omega
                          go_wp2
                          go_ret
                          exact ⟨rfl, hbb⟩
                  · rw [if_neg ha] at hm4
                    simp only at hm4
                    subst hm4
                    have hk1 : 1 ≤ k := by omega
                    have hk12 : k ≤ 12 := by omega
                    have hj1 : 1 ≤ j := by omega
                    have hj3 : decide ((j : Int) ≤ 3) = true := by simp; omega
                    go_wp2
                    go_ret
                    exact ⟨by simp, hbb⟩

end Go.Proofs.Qxb6001747a.Num
