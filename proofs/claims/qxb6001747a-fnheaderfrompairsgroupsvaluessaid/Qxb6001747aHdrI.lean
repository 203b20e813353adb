import Derived.Test.Qxb6001747aHdrH
namespace Go.Proofs.Qxb6001747a.Hdr
open Go.RowKit Go.Maps

theorem G_none (nm vl : Nat → ByteArray) (s : ByteArray) : ∀ k, (∀ t, t < k → nm t ≠ s) → G nm vl k s = []
  | 0, _ => rfl
  | k + 1, h => by
    rw [G, G_none nm vl s k (fun t ht => h t (by omega)), if_neg (h k (by omega))]
    rfl
theorem G_some (nm vl : Nat → ByteArray) (s : ByteArray) {t : Nat} (ht : nm t = s) : ∀ k, t < k → (G nm vl k s).isEmpty = false
  | 0, h => by omega
  | k + 1, h => by
    rw [G]
    by_cases hk : t = k
    · subst hk
      simp [ht]
    · have := G_some nm vl s ht k (by omega)
      simp at this ⊢
      exact fun h0 => absurd h0 this
theorem str_ne {a b : ByteArray} (h : ¬ a = b) : (a.toList == b.toList) = false := by
  rw [beq_eq_false_iff_ne, ByteArray.toList_eq, ByteArray.toList_eq]
  intro e
  apply h
  cases a; cases b
  simp at e
  rw [e]
theorem grown_below {w w' : World} (h : Below w.heap.size w w') : w.grownBy w' none := ⟨h.os, h.tape, h.output, h.size, fun k hk _ => h.block k hk⟩

set_option maxHeartbeats 4000000 in
theorem walk7 (a : Option Addr) (len cap : Nat) (A : Nat → Option Addr) (L C : Nat → Nat) (Z : Nat → List Int) (w : World) (hl : len ≤ maxLen) (hL : ∀ j, j < len → L j ≤ maxLen) (hp : Pairs w a len A L C Z) (hn : a = none → len = 0) :
    Calls Try.prog 7 #[.slice a len cap] w fun e w' => e = .returned (.bool true) ∧ Below w.heap.size w w' := by
  obtain ⟨i9, hi9, hz90, hz91, hz92⟩ := info_parts info9
  have hl' := hl
  unfold maxLen at hl'
  go_enter Try.func7, Try.ntmps7
  go_wp2_with fail
  refine (bytes18 a len cap A L C Z w hl hL hp).mono ?_
  rintro e w' ⟨⟨r, rfl, hr⟩, rfl⟩
  cases r with
  | false =>
    go_wp2
    go_ret
    exact ⟨rfl, Below.refl _ _⟩
  | true =>
    have hS : Short len L := hr rfl
    clear hr
    by_cases h16 : len ≤ 4096
    · go_wp2_with fail
      refine (fit15 a len cap A L C Z _ (by omega) hS hp).mono ?_
      rintro e w' ⟨⟨r, rfl, hr⟩, rfl⟩
      cases r with
      | false =>
        go_wp2
        go_ret
        exact ⟨rfl, Below.refl _ _⟩
      | true =>
        have hF : Few len := hr rfl
        clear hr
        by_cases hodd : len % 2 = 1
        · have h1 : ((len : Int) % 2 != 0) = true := by rw [bne_iff_ne]; omega
          go_wp2
          go_ret
          exact ⟨rfl, Below.refl _ _⟩
        · have h1 : ((len : Int) % 2 != 0) = false := by simp; omega
          go_wp2_with fail
          refine (clone16 a len cap A L C Z _ hF hS hp hn).mono ?_
          rintro e w1 ⟨hb1, hcl⟩
          obtain ⟨a2, cap2, A2, L2, C2, Z2, rfl, hp2, hS2⟩ := hcl.out
          clear hcl hp hS hL hn
          go_wp2_with fail
          obtain ⟨K, hK⟩ : ∃ K, len = 2 * K := ⟨len / 2, by omega⟩
          have hZ := hdrZ_even a2 K cap2 A2 L2 C2 Z2 w1 (hK ▸ hF) (hK ▸ hS2) (hK ▸ hp2)
          rw [← hK] at hZ
          refine hZ.mono ?_
          clear hZ
          rintro e w2 ⟨rfl, ⟨D, V, hd⟩, hb2⟩
          have hKle : K ≤ 2048 := by omega
          have HK : Hid (len = 2 * K) := hK
          clear hK
          have hbT : Below w'.heap.size w' w2 := hb1.trans (hb2.mono hb1.size)
          have hw12 : w1.heap.size ≤ w2.heap.size := hb2.size
          have hp3 : len = 0 ∨ ∃ b off, a2 = some ⟨b, off, none⟩ ∧ b < w2.heap.size ∧ ∀ j, j < len → w2.cell? ⟨b, off + j, none⟩ = some (.slice (A2 j) (L2 j) (C2 j)) ∧ Bytes w2 (A2 j) (L2 j) (Z2 j) := by
            rcases hp2 with h0 | ⟨b, off, h1, h2, h3⟩
            · exact .inl h0
            · exact .inr ⟨b, off, h1, by omega, fun j hj => ⟨(hb2.cell (p := ⟨b, off + j, none⟩) h2).trans (h3 j hj).1, (h3 j hj).2.below hb2⟩⟩
          clear hp2
          generalize hnm : (fun j => strOfNums (Z2 (2 * j))) = nm at *
          generalize hvl : (fun j => strOfNums (Z2 (2 * j + 1))) = vl at *
          have HN : Hid (∀ j, strOfNums (Z2 (2 * j)) = nm j) := fun j => congrFun hnm j
          have HV : Hid (∀ j, strOfNums (Z2 (2 * j + 1)) = vl j) := fun j => congrFun hvl j
          clear hnm hvl
          have HSz : Hid (∀ t, t < K → (nm t).size ≤ maxLen) := fun t ht => by
            have := HK.out
            rcases hp3 with h0 | ⟨b, off, h1, h2, h3⟩
            · omega
            · rw [← HN.out t, strOfNums_size, (h3 (2 * t) (by omega)).2.1]
              have := hS2 (2 * t) (by omega)
              unfold maxLen
              omega
          have hq : ∃ SL : Nat → Value, Hid (len = 0 ∨ ∃ b off, a2 = some ⟨b, off, none⟩ ∧ ∀ W, Below w2.heap.size w2 W → ∀ j, j < len → W.cell? ⟨b, off + j, none⟩ = some (SL j) ∧ (convert 28 9 (SL j)).run Try.prog W = .ok (.string (strOfNums (Z2 j))) W) :=
            ⟨fun j => .slice (A2 j) (L2 j) (C2 j), by
              rcases hp3 with h0 | ⟨b, off, h1, h2, h3⟩
              · exact .inl h0
              · exact .inr ⟨b, off, h1, fun W hW j hj => ⟨(hW.cell (p := ⟨b, off + j, none⟩) h2).trans (h3 j hj).1, conv ((h3 j hj).2.below hW)⟩⟩⟩
          obtain ⟨SL, HQ⟩ := hq
          clear hp3 hS2 hF hw12 hb1 hb2
          have HD : Hid (Hdr nm vl w1.heap.size K w2 D V) := hd
          clear hd
          go_wp2
          go_loopw [5, 6] (fun c i wr => ∃ m j : Nat, m ≤ K ∧ Hid (j = 2 * m) ∧ i = .int .i64 j ∧ c = .int .i64 (dc nm vl m) ∧ Below w2.heap.size w2 wr) (fun _ i _ => len - (intOf i).toNat)
          case atStart => exact ⟨0, 0, Nat.zero_le _, rfl, rfl, rfl, Below.refl _ _⟩
          case round =>
            rename World => wo
            obtain ⟨m, j, hm, HJ, rfl, rfl, hbo⟩ := hrel
            have hdl := dc_le nm vl m
            by_cases hlt : m < K
            · have hjl : j + 1 < len := by have := HJ.out; have := HK.out; omega
              rcases HQ.out with h0 | ⟨b, off, rfl, hc⟩
              · omega
              have HC : Hid (∀ W, Below w2.heap.size w2 W → ∀ j, j < len → W.cell? ⟨b, off + j, none⟩ = some (SL j) ∧ (convert 28 9 (SL j)).run Try.prog W = .ok (.string (strOfNums (Z2 j))) W) := hc
              clear hc
              obtain ⟨hc0, hv0⟩ := HC.out wo hbo j (by omega)
              rw [show strOfNums (Z2 j) = nm m by rw [← HN.out m, ← HJ.out]] at hv0
              generalize hdm : dc nm vl m = dm at *
              have HDm : Hid (dc nm vl m = dm) := hdm
              clear hdm
              go_wp2
              go_loop [8, 9] (fun f i => ∃ t jt : Nat, t ≤ m ∧ Hid (jt = 2 * t) ∧ i = .int .i64 jt ∧ f = .bool true ∧ Hid (∀ u, u < t → nm u ≠ nm m)) (fun _ i => len - (intOf i).toNat)
              case atStart => exact ⟨0, 0, Nat.zero_le _, rfl, rfl, rfl, fun u hu => by omega⟩
              case round =>
                obtain ⟨t, jt, ht, HT, rfl, rfl, hno⟩ := hrel
                by_cases htm : t < m
                · have hjt : jt < j := by have := HJ.out; have := HT.out; omega
                  obtain ⟨hc1, hv1⟩ := HC.out wo hbo jt (by omega)
                  rw [show strOfNums (Z2 jt) = nm t by rw [← HN.out t, ← HT.out]] at hv1
                  by_cases heq : nm t = nm m
                  · rw [heq] at hv1
                    have heq' : Hid (nm t = nm m) := heq
                    clear heq
                    go_wp2
                    go_roundw
                    case rel =>
                      refine ⟨m + 1, j + 2, by omega, by have := HJ.out; show j + 2 = 2 * (m + 1); omega, by go_num, ?_, hbo⟩
                      rw [dc, G_some nm vl (nm m) heq'.out m htm, HDm.out]
                      simp
                    case measure => simp [intOf]; omega
                  · have hnes := str_ne heq
                    go_wp2
                    go_round
                    case rel =>
                      refine ⟨t + 1, jt + 2, by omega, by have := HT.out; show jt + 2 = 2 * (t + 1); omega, by go_num, rfl, fun u hu => ?_⟩
                      by_cases hut : u = t
                      · subst hut; exact heq
                      · exact hno.out u (by omega)
                    case measure => simp [intOf]; omega
                · have htm' : t = m := by omega
                  subst htm'
                  have hjj : ¬ jt < j := by have := HJ.out; have := HT.out; omega
                  have HG : Hid (G nm vl t (nm t) = []) := G_none nm vl (nm t) t hno.out
                  clear hno
                  go_wp2
                  go_loopw [10, 11] (fun v i ws => ∃ u ju : Nat, t ≤ u ∧ u ≤ K ∧ Hid (ju = 2 * u) ∧ i = .int .i64 ju ∧ ws.ownsRow w2.heap.size 9 1 v (G nm vl u (nm t)).length ((G nm vl u (nm t)).map Value.string) ∧ Below w2.heap.size w2 ws) (fun _ i _ => len - (intOf i).toNat)
                  case atStart => exact ⟨t, j, Nat.le_refl _, by omega, HJ.out, rfl, by rw [HG.out]; exact World.ownsRow_nil _ _ _ _, hbo⟩
                  case round =>
                    rename World => ws
                    obtain ⟨u, ju, htu, huK, HU, rfl, hrow, hbs⟩ := hrel
                    by_cases hul : u < K
                    · have hjul : ju + 1 < len := by have := HU.out; have := HK.out; omega
                      obtain ⟨hc2, hv2⟩ := HC.out ws hbs ju (by omega)
                      obtain ⟨hc3, hv3⟩ := HC.out ws hbs (ju + 1) (by omega)
                      rw [show strOfNums (Z2 ju) = nm u by rw [← HN.out u, ← HU.out]] at hv2
                      rw [show strOfNums (Z2 (ju + 1)) = vl u by rw [← HV.out u, ← HU.out]] at hv3
                      by_cases heq : nm u = nm t
                      · have hGl := G_len nm vl (nm t) u
                        have HGs : Hid (G nm vl (u + 1) (nm t) = G nm vl u (nm t) ++ [vl u]) := by show G nm vl (u + 1) (nm t) = _; rw [G, if_pos heq]
                        rw [heq] at hv2
                        clear heq
                        generalize hGg : G nm vl u (nm t) = gs at *
                        clear hGg
                        have hws : w2.heap.size ≤ ws.heap.size := hbs.size
                        go_wp2_with (at_builtin; refine wpList_append_own_at _ rfl _ _ 36 rfl w2.heap.size 9 i9 (.string ByteArray.empty) 1 16 Try.underlying36 hi9 hz90 hz91 hz92 rfl (by decide) _ _ _ rfl (hrow.alloc _) ⟨ws.heap.size, 0, none⟩ 1 1 [.string (vl u)] rfl rfl (cell_one_new _ _ _) (by simp [Value.oneCell']) (by unfold maxLen; omega) (by omega) (by simp; omega) ?_; intro v' w3 hown3 hgrow3 hnil3 hloc3)
                        have hb3 : Below w2.heap.size w2 w3 := (hbs.alloc hws _).grown hgrow3 (by simp; omega) (fun i hi => (hrow.lt i hi).1)
                        go_roundw
                        case rel => exact ⟨u + 1, ju + 2, by omega, by omega, by have := HU.out; show ju + 2 = 2 * (u + 1); omega, by go_num, by rw [HGs.out]; simpa using hown3, hb3⟩
                        case measure => simp [intOf]; omega
                      · have hnes := str_ne heq
                        have HGs : Hid (G nm vl (u + 1) (nm t) = G nm vl u (nm t)) := by show G nm vl (u + 1) (nm t) = _; rw [G, if_neg heq, List.append_nil]
                        go_wp2
                        go_roundw
                        case rel => exact ⟨u + 1, ju + 2, by omega, by omega, by have := HU.out; show ju + 2 = 2 * (u + 1); omega, by go_num, by rw [HGs.out]; exact hrow, hbs⟩
                        case measure => simp [intOf]; omega
                    · have huK' : u = K := by omega
                      subst huK'
                      have hjj3 : ¬ ju < len := by have := HU.out; have := HK.out; omega
                      have hd4 := HD.out.kept (grown_below hbs)
                      have hlk := hd4.look (nm t) (HSz.out t hlt)
                      have hrowV := hd4.row (nm t)
                      have HdT : Hid (dc nm vl (t + 1) = dm + 1) := by show dc nm vl (t + 1) = dm + 1; rw [dc, HG.out, HDm.out]; rfl
                      have hGl := G_len nm vl (nm t) u
                      clear hd4
                      go_wp2_with fail
                      refine (same19 _ _ (G nm vl u (nm t)) ws _ _ (by omega) hrowV hrow).mono ?_
                      rintro e w5 ⟨rfl, nq, rfl⟩
                      go_wp2
                      go_roundw
                      case rel => exact ⟨t + 1, j + 2, by omega, by have := HJ.out; show j + 2 = 2 * (t + 1); omega, by go_num, by rw [HdT.out]; go_num, below_drewN' hbs _⟩
                      case measure => simp [intOf]; omega
            · have hmK : m = K := by omega
              subst hmK
              have hjl : ¬ j < len := by have := HJ.out; have := HK.out; omega
              have hlen := fun ty => (HD.out.kept (grown_below hbo)).len ty
              go_wp2
              go_ret
              exact ⟨by simp, hbT.trans (hbo.mono hbT.size)⟩
    · go_wp2
      go_ret
      exact ⟨rfl, Below.refl _ _⟩

end Go.Proofs.Qxb6001747a.Hdr
