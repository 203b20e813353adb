import Derived.Test.Qxb6001747aNumE
namespace Go.Proofs.Qxb6001747a.Num
open Go.RowKit

/-- In the text s the bytes from a on, up to b, are digits. -/
def Digs (s : ByteArray) (a b : Nat) : Prop := ∀ j, a ≤ j → j < b → ∀ h : j < s.size, isd (s[j].toNat : Int) = true
theorem digs_of (p1 ws p2 : List UInt8) (hw : ∀ c ∈ ws, dig c = true) : Digs (B (p1 ++ (ws ++ p2))) p1.length (p1.length + ws.length) := by
  intro j h1 h2 h
  rw [isd_dig, B_get]
  apply hw
  rw [List.getElem_append_right h1, List.getElem_append_left (by omega)]
  exact List.getElem_mem _
theorem at_of (p1 p2 : List UInt8) (c : UInt8) (h : p1.length < (B (p1 ++ c :: p2)).size) : (B (p1 ++ c :: p2))[p1.length] = c := by
  rw [B_get, List.getElem_append_right (Nat.le_refl _)]
  simp

set_option maxHeartbeats 8000000 in
/-- Behind the answer, at an Integer. -/
theorem walk3 (l : List UInt8) (w : World) : Calls Try.prog 3 #[.string (B l)] w fun e w' => e = .returned (.bool true) ∧ Below w.heap.size w w' := by
  have hl := B_size l
  have Hl : Hid ((B l).size = l.length) := hl
  clear hl
  go_enter Try.func3, Try.ntmps3
  go_wp2_with fail
  refine (bytes8 l w).mono ?_
  rintro e w' ⟨⟨r, rfl, hr⟩, rfl⟩
  cases r with
  | false =>
    go_wp2
    go_ret
    exact ⟨rfl, Below.refl _ _⟩
  | true =>
    have hS : l.length ≤ 1048576 := hr rfl
    clear hr
    have g1 : (B l).size ≤ 1048576 := by have := Hl.out; omega
    go_wp2_with fail
    refine (skipZ9 l _ (by omega)).mono ?_
    rintro e w1 ⟨hb1, hm1⟩
    cases hsk : sk l with
    | none =>
      rw [hsk] at hm1
      simp only at hm1
      subst hm1
      clear hsk
      go_wp2
      go_ret
      exact ⟨rfl, hb1⟩
    | some x =>
      obtain ⟨rest, d⟩ := x
      rw [hsk] at hm1
      simp only at hm1
      subst hm1
      obtain ⟨sg, ws, fs, hpl, hsg, hw, hw1, hnr, hdd⟩ := sk_parts hsk
      have hpl2 : l = sg ++ (ws ++ fs) ++ rest := by rw [hpl]; simp
      generalize hp : sg ++ (ws ++ fs) = p at *
      subst hpl2
      clear hpl hsk
      have hpr : (p ++ rest).length ≤ 1048576 := hS
      have hex : (B (p ++ rest)).extract 0 ((B (p ++ rest)).size - (B rest).size) = B p := by
        rw [B_take, B_size, B_size]; congr 1; simp
      have hpz : 1 ≤ p.length := by rw [← hp]; simp; omega
      have hle : (B rest).size < (B (p ++ rest)).size := by rw [B_size, B_size]; simp; omega
      have hle2 : (B rest).size ≤ (B (p ++ rest)).size := by omega
      have hle3 : decide ((B (p ++ rest)).size ≤ (B rest).size) = false := by simp; omega
      have hps : (B p).size ≤ 1048576 := by rw [B_size]; simp at hpr; omega
      -- the parts
      have hD1 : Digs (B p) sg.length (sg.length + ws.length) := by rw [← hp]; exact digs_of sg ws fs hw
      have hp0 : 0 < (B p).size := by rw [B_size]; omega
      have hsg0 : (sg.length = 1 ∧ (((B p)[0].toNat : Int) == 45) = true) ∨ (sg.length = 0 ∧ (((B p)[0].toNat : Int) == 45) = false) := by
        rcases hsg with h | h
        · right
          refine ⟨by simp [h], ?_⟩
          have := hD1 0 (by simp [h]) (by simp [h]; omega) hp0
          simp [isd] at this ⊢
          omega
        · left
          refine ⟨by simp [h], ?_⟩
          subst h
          have : (B p)[0] = 45 := by
            subst hp
            exact at_of [] _ 45 _
          rw [this]
          rfl
      have hpl : (B p).size = sg.length + (ws.length + fs.length) := by rw [B_size, ← hp]; simp
      have hrest : (B rest).size = 0 ∨ ∃ h : 0 < (B rest).size, isd ((B rest)[0].toNat : Int) = false ∧ (d = false → (((B rest)[0].toNat : Int) != 46) = true) := by
        cases rest with
        | nil => exact .inl rfl
        | cons c q =>
          have hz : 0 < (B (c :: q)).size := by rw [B_size]; simp
          have hc : (B (c :: q))[0] = c := by rw [B_get]; rfl
          refine .inr ⟨hz, by rw [hc, isd_dig]; exact hnr, fun hd => ?_⟩
          rw [hc]
          rcases hdd with ⟨_, _, _, h⟩ | ⟨h, _⟩
          · rw [bne_iff_ne]
            intro e
            apply h
            have : c = 46 := by
              apply UInt8.toNat_inj.1
              have h2 : (46 : UInt8).toNat = 46 := rfl
              omega
            rw [this]; rfl
          · rw [hd] at h; cases h
      have hDot : ∀ ds, fs = 46 :: ds → (∀ h : sg.length + ws.length < (B p).size, (((B p)[sg.length + ws.length].toNat : Int) == 46) = true) ∧ (∀ h : sg.length + ws.length < (B p).size, isd ((B p)[sg.length + ws.length].toNat : Int) = false) ∧
          (B p).size = sg.length + ws.length + (1 + ds.length) ∧ ((∀ c ∈ ds, dig c = true) → Digs (B p) (sg.length + ws.length + 1) (sg.length + ws.length + 1 + ds.length)) := by
        intro ds hf
        subst hf
        have e1 : p = (sg ++ ws) ++ 46 :: ds := by rw [← hp]; simp
        have e2 : p = (sg ++ ws ++ [46]) ++ (ds ++ []) := by rw [← hp]; simp
        have e3 : ∀ h : sg.length + ws.length < (B p).size, (B p)[sg.length + ws.length] = 46 := by
          intro h
          subst e1
          have := at_of (sg ++ ws) ds 46 (by rw [B_size]; simp)
          simpa using this
        refine ⟨fun h => by rw [e3 h]; rfl, fun h => by rw [e3 h]; rfl, by rw [B_size, e1]; simp; omega, fun hds => ?_⟩
        have := digs_of (sg ++ ws ++ [46]) ds [] hds
        rw [← e2] at this
        simpa [Nat.add_assoc] using this
      clear hsg
      generalize hi0 : sg.length = i0 at *
      generalize hn : ws.length = n at *
      have HN : Hid (ws.length = n) := hn
      clear hn hw
      go_wp2_with fail
      refine (suffix10 p rest _ hpr).mono ?_
      rintro e w2 ⟨rfl, rfl⟩
      have hnb : n ≤ 1048576 := by omega
      have Hpl : Hid ((B p).size = i0 + (n + fs.length)) := hpl
      have HD1 : Hid (Digs (B p) i0 (i0 + n)) := hD1
      clear hpl hD1
      generalize B p = s at *
      have HDD : Hid ((d = false ∧ fs = [] ∧ n ≤ 15 ∧ rest.head? ≠ some 46) ∨ (d = true ∧ n ≤ 12 ∧ ∃ ds, fs = 46 :: ds ∧ (∀ c ∈ ds, dig c = true) ∧ 1 ≤ ds.length ∧ ds.length ≤ 3)) := hdd
      clear hdd
      have HDot : Hid (∀ ds, fs = 46 :: ds → (∀ h : i0 + n < s.size, ((s[i0 + n].toNat : Int) == 46) = true) ∧ (∀ h : i0 + n < s.size, isd (s[i0 + n].toNat : Int) = false) ∧ s.size = i0 + n + (1 + ds.length) ∧ ((∀ c ∈ ds, dig c = true) → Digs s (i0 + n + 1) (i0 + n + 1 + ds.length))) := hDot
      clear hDot
      rcases hsg0 with ⟨hi1, h45⟩ | ⟨hi1, h45⟩
      · have HI : Hid (i0 = 1) := hi1
        clear hi1 hi0
        go_wp2
        go_loop [7, 8] (fun i c => ∃ j k : Nat, j ≤ s.size ∧ k ≤ n ∧ Hid (j = i0 + k) ∧ i = .int .i64 j ∧ c = .int .i64 k) (fun i _ => s.size - (intOf i).toNat)
        case atStart => exact ⟨1, 0, by omega, by omega, HI.out.symm, rfl, rfl⟩
        case round =>
          obtain ⟨j, k, hj, hk, HJ, rfl, rfl⟩ := hrel
          by_cases hkn : k < n
          · have hjs : j < s.size := by have := HJ.out; have := Hpl.out; omega
            have hdj := HD1.out j (by have := HJ.out; omega) (by have := HJ.out; omega) hjs
            go_wp2_with (go_at_call 11; refine (digit11 _ _).mono ?_; rintro e wz ⟨rfl, rfl⟩)
            go_round
            case rel => exact ⟨j + 1, k + 1, by omega, by omega, by have := HJ.out; show j + 1 = i0 + (k + 1); omega, by go_num, by go_num⟩
            case measure => simp [intOf]; omega
          · have hkn' : k = n := by omega
            subst hkn'
            rcases HDD.out with ⟨hd, hfs, h15, hr46⟩ | ⟨hd, h12, ds, hfs, hds, hd1, hd3⟩
            · subst hd
              have hjs : j = s.size := by have := HJ.out; have h2 := Hpl.out; rw [hfs] at h2; simp at h2; omega
              subst hjs
              have hk0 : ((k : Int) == 0) = false := by simp; omega
              rcases hrest with hr0 | ⟨hr0, hrd, hrn⟩
              · go_wp2_with fail
                go_ret
                exact ⟨rfl, hb1⟩
              · have hrn' := hrn rfl
                have hr0' : (((B rest).size : Int) == 0) = false := beq_eq_false_iff_ne.2 (by omega)
                clear hrn
                go_wp2_with (go_at_call 11; refine (digit11 _ _).mono ?_; rintro e wz ⟨rfl, rfl⟩)
                go_ret
                exact ⟨rfl, hb1⟩
            · subst hd
              have hk0 : ((k : Int) == 0) = false := by simp; omega
              have hjs : j < s.size := by have := HJ.out; have h2 := Hpl.out; rw [hfs] at h2; simp at h2; omega
              have hDot := HDot.out ds hfs
              rw [← HJ.out] at hDot
              obtain ⟨hdot1, hdot2, hdot3, hD2'⟩ := hDot
              have hD2 := hD2' hds
              clear hD2'
              generalize hf : ds.length = f at *
              have Hsz : Hid (s.size = j + (1 + f)) := hdot3
              have HD2 : Hid (Digs s (j + 1) (j + 1 + f)) := hD2
              have hjj := hdot1 hjs
              have hjd := hdot2 hjs
              clear hdot1 hdot2 hdot3 hD2 hds hf hfs
              have hrest' : (B rest).size = 0 ∨ ∃ h : 0 < (B rest).size, isd ((B rest)[0].toNat : Int) = false := by
                rcases hrest with h | ⟨h, h2, _⟩
                · exact .inl h
                · exact .inr ⟨h, h2⟩
              clear hrest
              go_wp2_with (go_at_call 11; refine (digit11 _ _).mono ?_; rintro e wz ⟨rfl, rfl⟩)
              go_loop [7, 9] (fun i c => ∃ j2 k2 : Nat, j2 ≤ s.size ∧ k2 ≤ f ∧ Hid (j2 = j + 1 + k2) ∧ i = .int .i64 j2 ∧ c = .int .i64 k2) (fun i _ => s.size - (intOf i).toNat)
              case atStart => exact ⟨j + 1, 0, by omega, by omega, rfl, by go_num, rfl⟩
              case round =>
                obtain ⟨j2, k2, hj2, hk2, HJ2, rfl, rfl⟩ := hrel
                by_cases hkf : k2 < f
                · have hjs2 : j2 < s.size := by have := HJ2.out; have := Hsz.out; omega
                  have hdj2 := HD2.out j2 (by have := HJ2.out; omega) (by have := HJ2.out; omega) hjs2
                  go_wp2_with (go_at_call 11; refine (digit11 _ _).mono ?_; rintro e wz ⟨rfl, rfl⟩)
                  go_round
                  case rel => exact ⟨j2 + 1, k2 + 1, by omega, by omega, by have := HJ2.out; show j2 + 1 = j + 1 + (k2 + 1); omega, by go_num, by go_num⟩
                  case measure => simp [intOf]; omega
                · have hkf' : k2 = f := by omega
                  subst hkf'
                  have hj2s : j2 = s.size := by have := HJ2.out; have := Hsz.out; omega
                  subst hj2s
                  have hk3 : decide ((k2 : Int) ≤ 3) = true := by simp; omega
                  rcases hrest' with hr0 | ⟨hr0, hrd⟩
                  · go_wp2_with fail
                    go_ret
                    exact ⟨rfl, hb1⟩
                  · go_wp2_with (go_at_call 11; refine (digit11 _ _).mono ?_; rintro e wz ⟨rfl, rfl⟩)
                    go_ret
                    exact ⟨rfl, hb1⟩
      · have HI : Hid (i0 = 0) := hi1
        clear hi1 hi0
        go_wp2
        go_loop [7, 8] (fun i c => ∃ j k : Nat, j ≤ s.size ∧ k ≤ n ∧ Hid (j = i0 + k) ∧ i = .int .i64 j ∧ c = .int .i64 k) (fun i _ => s.size - (intOf i).toNat)
        case atStart => exact ⟨0, 0, by omega, by omega, HI.out.symm, rfl, rfl⟩
        case round =>
          obtain ⟨j, k, hj, hk, HJ, rfl, rfl⟩ := hrel
          by_cases hkn : k < n
          · have hjs : j < s.size := by have := HJ.out; have := Hpl.out; omega
            have hdj := HD1.out j (by have := HJ.out; omega) (by have := HJ.out; omega) hjs
            go_wp2_with (go_at_call 11; refine (digit11 _ _).mono ?_; rintro e wz ⟨rfl, rfl⟩)
            go_round
            case rel => exact ⟨j + 1, k + 1, by omega, by omega, by have := HJ.out; show j + 1 = i0 + (k + 1); omega, by go_num, by go_num⟩
            case measure => simp [intOf]; omega
          · have hkn' : k = n := by omega
            subst hkn'
            rcases HDD.out with ⟨hd, hfs, h15, hr46⟩ | ⟨hd, h12, ds, hfs, hds, hd1, hd3⟩
            · subst hd
              have hjs : j = s.size := by have := HJ.out; have h2 := Hpl.out; rw [hfs] at h2; simp at h2; omega
              subst hjs
              have hk0 : ((k : Int) == 0) = false := by simp; omega
              rcases hrest with hr0 | ⟨hr0, hrd, hrn⟩
              · go_wp2_with fail
                go_ret
                exact ⟨rfl, hb1⟩
              · have hrn' := hrn rfl
                have hr0' : (((B rest).size : Int) == 0) = false := beq_eq_false_iff_ne.2 (by omega)
                clear hrn
                go_wp2_with (go_at_call 11; refine (digit11 _ _).mono ?_; rintro e wz ⟨rfl, rfl⟩)
                go_ret
                exact ⟨rfl, hb1⟩
            · subst hd
              have hk0 : ((k : Int) == 0) = false := by simp; omega
              have hjs : j < s.size := by have := HJ.out; have h2 := Hpl.out; rw [hfs] at h2; simp at h2; omega
              have hDot := HDot.out ds hfs
              rw [← HJ.out] at hDot
              obtain ⟨hdot1, hdot2, hdot3, hD2'⟩ := hDot
              have hD2 := hD2' hds
              clear hD2'
              generalize hf : ds.length = f at *
              have Hsz : Hid (s.size = j + (1 + f)) := hdot3
              have HD2 : Hid (Digs s (j + 1) (j + 1 + f)) := hD2
              have hjj := hdot1 hjs
              have hjd := hdot2 hjs
              clear hdot1 hdot2 hdot3 hD2 hds hf hfs
              have hrest' : (B rest).size = 0 ∨ ∃ h : 0 < (B rest).size, isd ((B rest)[0].toNat : Int) = false := by
                rcases hrest with h | ⟨h, h2, _⟩
                · exact .inl h
                · exact .inr ⟨h, h2⟩
              clear hrest
              go_wp2_with (go_at_call 11; refine (digit11 _ _).mono ?_; rintro e wz ⟨rfl, rfl⟩)
              go_loop [7, 9] (fun i c => ∃ j2 k2 : Nat, j2 ≤ s.size ∧ k2 ≤ f ∧ Hid (j2 = j + 1 + k2) ∧ i = .int .i64 j2 ∧ c = .int .i64 k2) (fun i _ => s.size - (intOf i).toNat)
              case atStart => exact ⟨j + 1, 0, by omega, by omega, rfl, by go_num, rfl⟩
              case round =>
                obtain ⟨j2, k2, hj2, hk2, HJ2, rfl, rfl⟩ := hrel
                by_cases hkf : k2 < f
                · have hjs2 : j2 < s.size := by have := HJ2.out; have := Hsz.out; omega
                  have hdj2 := HD2.out j2 (by have := HJ2.out; omega) (by have := HJ2.out; omega) hjs2
                  go_wp2_with (go_at_call 11; refine (digit11 _ _).mono ?_; rintro e wz ⟨rfl, rfl⟩)
                  go_round
                  case rel => exact ⟨j2 + 1, k2 + 1, by omega, by omega, by have := HJ2.out; show j2 + 1 = j + 1 + (k2 + 1); omega, by go_num, by go_num⟩
                  case measure => simp [intOf]; omega
                · have hkf' : k2 = f := by omega
                  subst hkf'
                  have hj2s : j2 = s.size := by have := HJ2.out; have := Hsz.out; omega
                  subst hj2s
                  have hk3 : decide ((k2 : Int) ≤ 3) = true := by simp; omega
                  rcases hrest' with hr0 | ⟨hr0, hrd⟩
                  · go_wp2_with fail
                    go_ret
                    exact ⟨rfl, hb1⟩
                  · go_wp2_with (go_at_call 11; refine (digit11 _ _).mono ?_; rintro e wz ⟨rfl, rfl⟩)
                    go_ret
                    exact ⟨rfl, hb1⟩

end Go.Proofs.Qxb6001747a.Num
