import Derived.Test.Qxb6600165aGrpJ
import Derived.Test.Qxb6600165aGrpK
import Derived.LaidEqlPtr
namespace Go.Proofs.Qxb6600165a.Grp
open Go.RowKit

theorem fin_acc {D : Data} {n u I s : Nat} {acc : Int} (hI : I < n) (hG : D.G I = some u) (hz : Zero (D.X u) = false) (hS : D.S I = some s) (hbest : ∀ j g r, j < n → D.G j = some g → Late D u g → D.S j = some r → (D.ac r < D.ac s ∨ (D.ac r = D.ac s ∧ D.fl r ≤ D.fl s))) (hm : MaxOf (AccAt D (D.K u)) n acc) (hpos : 0 < D.ac s) : D.ac s = acc := by
  have h1 := hm.1 I _ hI ⟨u, s, hG, hz, rfl, hS, rfl⟩
  rcases hm.2 with h | ⟨j, hj, g, r, a, b, c, d, e⟩
  · omega
  · have := hbest j g r hj a ⟨b, by omega⟩ d
    omega
theorem fin_flu {D : Data} {n u I s : Nat} {acc fl : Int} (hI : I < n) (hG : D.G I = some u) (hz : Zero (D.X u) = false) (hS : D.S I = some s) (hbest : ∀ j g r, j < n → D.G j = some g → Late D u g → D.S j = some r → (D.ac r < D.ac s ∨ (D.ac r = D.ac s ∧ D.fl r ≤ D.fl s))) (hacc : D.ac s = acc) (hm : MaxOf (FluAt D (D.K u) acc) n fl) (h0 : 0 ≤ D.fl s) : D.fl s = fl := by
  have h1 := hm.1 I _ hI ⟨u, s, hG, hz, rfl, hS, hacc, rfl⟩
  rcases hm.2 with h | ⟨j, hj, g, r, a, b, c, d, e, f⟩
  · omega
  · have := hbest j g r hj a ⟨b, by omega⟩ d
    omega
theorem no_acc {D : Data} {n u : Nat} {acc : Int} (h : ∀ j g r, j < n → D.G j = some g → Late D u g → D.S j = some r → D.ac r ≤ 0) (hm : MaxOf (AccAt D (D.K u)) n acc) (hpos : 0 < acc) : False := by
  rcases hm.2 with h' | ⟨j, hj, g, r, a, b, c, d, e⟩
  · omega
  · have := h j g r hj a ⟨b, by omega⟩ d
    omega
theorem no_pos {D : Data} {n u I s : Nat} {acc : Int} (hI : I < n) (hG : D.G I = some u) (hz : Zero (D.X u) = false) (hS : D.S I = some s) (hm : MaxOf (AccAt D (D.K u)) n acc) (hpos : 0 < D.ac s) (hacc : ¬ 0 < acc) : False := by
  have h1 := hm.1 I _ hI ⟨u, s, hG, hz, rfl, hS, rfl⟩
  omega
theorem fin_trm {D : Data} {n u I : Nat} {x : Int} (hI : I < n) (hG : D.G I = some u) (hz : Zero (D.X u) = false) (h : ∀ j g, j < n → D.G j = some g → Late D u g → D.tm g ≤ D.tm u) (hm : MaxOf (TrmAt D (D.K u)) n x) (h0 : 0 ≤ D.tm u) : D.tm u = x := by
  have h1 := hm.1 I _ hI ⟨u, hG, hz, rfl, rfl⟩
  rcases hm.2 with h' | ⟨j, hj, g, a, b, c, e⟩
  · omega
  · have := h j g hj a ⟨b, by omega⟩
    omega

theorem eqNil (u : Nat) (w : World) : (binOp .eql 30 (.pointer none) (.pointer (some ⟨u, 0, none⟩))).run Try.prog w = .ok (.bool false) w := by
  have h : ∀ d : Nat, (Op.equalIn (d + 1) 30 (.pointer none) (.pointer (some ⟨u, 0, none⟩))).run Try.prog w = .ok false w := fun d => by
    simp [Op.equalIn, run_underlying Try.underlying30]
  simp only [binOp]
  simp [Op.equal, Op.maxDepth, h 9999]
theorem info39 : (Try.prog.info? 39).map (·.size) = some 23 := by kernel_rfl
theorem eqSame (u : Nat) (w : World) : (binOp .eql 30 (.pointer (some ⟨u, 0, none⟩)) (.pointer (some ⟨u, 0, none⟩))).run Try.prog w = .ok (.bool true) w := by
  have h := info39
  cases hj : Try.prog.info? 39 with
  | none => rw [hj] at h; cases h
  | some j => exact run_eql_ptr_same w _ Try.underlying30 hj
theorem eqOther {w : World} {g u : Nat} {X Y : Nat → Int} {c1 m1 c2 m2 : Int} {t1 t2 : Option Addr} {n1 d1 n2 d2 : Nat} (hne : g ≠ u) (hg : IsGrp w g X c1 m1 t1 n1 d1) (hu : IsGrp w u Y c2 m2 t2 n2 d2) : (binOp .eql 30 (.pointer (some ⟨g, 0, none⟩)) (.pointer (some ⟨u, 0, none⟩))).run Try.prog w = .ok (.bool false) w := by
  have h := info39
  cases hj : Try.prog.info? 39 with
  | none => rw [hj] at h; cases h
  | some j =>
    rw [hj] at h
    simp at h
    obtain ⟨cs, t, e⟩ := hg.blk
    obtain ⟨cs', t', e'⟩ := hu.blk
    exact run_eql_ptr_other w Try.underlying30 hj (by omega) (by intro e; cases e; exact hne rfl) e e'

theorem big8' (T : Int) (st : Nat) (hT : T = (st : Int)) (a : Option Addr) (n c : Nat) (w : World) (hst : st ≤ 600000) (hn : n ≤ 65536) (hg : ZGroups w a n) :
    Calls Try.prog 8 #[.int .i64 T, .slice a n c] w fun e w' => Denies e (SGroups w a n) ∧ Draws w w' := by
  subst hT
  exact big8 st a n c w hst hn hg

def Yes (w : World) (e : Ending) (w' : World) : Prop := e = .returned (.bool true) ∧ Below w.heap.size w w'

set_option maxRecDepth 100000 in
set_option maxHeartbeats 8000000 in
theorem law3 (a1 a2 : Option Addr) (m c n d : Nat) (w : World) (hm : m ≤ maxLen) (hn : n ≤ maxLen) (h1 : ZStates w a1 m) (h2 : ZGroups w a2 n) (e1 : a1 = none → m = 0) (e2 : a2 = none → n = 0) :
    Calls Try.prog 3 #[.slice a1 m c, .slice a2 n d] w fun e w' => Yes w e w' := by
  have H1 : Hid (ZStates w a1 m) := h1
  have H2 : Hid (ZGroups w a2 n) := h2
  have Hm : Hid (m ≤ maxLen) := hm
  have Hn : Hid (n ≤ maxLen) := hn
  unfold maxLen at hm hn
  clear h1 h2
  go_enter Try.func3, Try.ntmps3
  go_wp2_with fail
  refine (bytes7 a1 a2 m c n d _ Hm.out Hn.out H2.out).mono ?_
  rintro e wz ⟨⟨r, rfl, _⟩, rfl⟩
  cases r with
  | false =>
    go_wp2
    go_ret
    exact ⟨rfl, Below.refl _ _⟩
  | true =>
    by_cases hm2 : m ≤ 65536
    · by_cases hn2 : n ≤ 65536
      · go_wp2_with fail
        refine (big8' _ (8 * m) (by omega) a2 n d _ (by omega) hn2 H2.out).mono ?_
        rintro e wz ⟨⟨r, rfl, hr⟩, hdr⟩
        have HD : Hid (Draws w wz) := hdr
        have hb1 : Below w.heap.size w wz := draws_below hdr
        have HS : Hid (ZStates wz a1 m) := H1.out.draws hdr
        clear hdr
        cases r with
        | true =>
          clear hr
          go_wp2
          go_ret
          exact ⟨rfl, hb1⟩
        | false =>
          have HG : Hid (SGroups wz a2 n) := (hr rfl).below hb1
          clear hr
          by_cases hmn : m = n
          · subst hmn
            go_wp2_with fail
            refine (states9 a1 m c _ hm2 HS.out e1).mono ?_
            rintro e w2 ⟨hb2, hms⟩
            obtain ⟨A, rfl, HA⟩ : ∃ A, e = .returned (.slice A m m) ∧ Hid (m = 0 ∨ ∃ B, A = some ⟨B, 0, none⟩ ∧ SRow B m w2) := by
              rcases hms with ⟨h, h'⟩ | ⟨h, h'⟩
              · subst h'
                exact ⟨none, h, .inl rfl⟩
              · exact ⟨_, h, .inr ⟨_, rfl, h'⟩⟩
            clear hms
            have HG2 : Hid (SGroups w2 a2 m) := HG.out.below hb2
            have hb3 : Below w.heap.size w w2 := hb1.trans (hb2.mono hb1.size)
            clear hb2
            go_wp2_with fail
            refine (groups10 a2 m d _ hm2 HG2.out e2).mono ?_
            rintro e w3 ⟨hb4, hms⟩
            obtain ⟨C, rfl, HCr⟩ : ∃ C, e = .returned (.slice C m m) ∧ Hid (m = 0 ∨ ∃ B, C = some ⟨B, 0, none⟩ ∧ GRow B m w3) := by
              rcases hms with ⟨h, h'⟩ | ⟨h, h'⟩
              · subst h'
                exact ⟨none, h, .inl rfl⟩
              · exact ⟨_, h, .inr ⟨_, rfl, h'⟩⟩
            clear hms
            obtain ⟨D, hC⟩ : ∃ D, Copies w3 m A C D := copies_of hm2 (by
              rcases HA.out with h | ⟨B, h, h'⟩
              · exact .inl h
              · exact .inr ⟨B, h, h'.below hb4⟩) HCr.out
            have HC3 : Hid (Copies w3 m A C D) := hC
            have hb5 : Below w.heap.size w w3 := hb3.trans (hb4.mono hb3.size)
            clear hb4 hb3 hb1 HCr HA HG2 HG HS H1 H2 Hm Hn hC HD
            go_wp2_with fail
            refine (group11 A C m D _ HC3.out).mono ?_
            rintro e w4 ⟨p, rfl, hch, hdr⟩
            have Hch : Hid (Chosen D m p) := hch
            have HC : Hid (Copies w4 m A C D) := HC3.out.below hdr
            have hB : Below w.heap.size w w4 := hb5.trans ((draws_below hdr).mono hb5.size)
            clear hb5 hdr HC3 hch
            generalize hp : ptr p = vp
            have Hp : Hid (vp = ptr p) := hp.symm
            clear hp
            go_wp2
            go_loop [9, 10, 11] (fun f ms i => ∃ (fb : Bool) (most : Int) (k : Nat), k ≤ m ∧ f = .bool fb ∧ ms = .int .u64 most ∧ i = .int .i64 k ∧ Found D k fb most) (fun _ _ i => m - (intOf i).toNat)
            case atStart => exact ⟨false, 0, 0, Nat.zero_le _, rfl, rfl, rfl, found_zero D 0⟩
            case round =>
              obtain ⟨fb, most, k, hk, rfl, rfl, rfl, hF⟩ := hrel
              have HF : Hid (Found D k fb most) := hF
              clear hF
              by_cases hlt : k < m
              · obtain ⟨B, rfl, hcell⟩ := HC.out.gr k hlt
                cases hg : D.G k with
                | none =>
                  have hF2 := HF.out.skip (fun g h => by rw [hg] at h; cases h)
                  rw [hg] at hcell
                  unfold ptr at hcell
                  clear hg
                  as_aux_lemma =>
                    go_wp2_with fail
                    refine (rec12n _).mono ?_
                    rintro e wz ⟨rfl, rfl⟩
                    go_wp2
                    go_round
                    case rel => exact ⟨fb, most, k + 1, by omega, rfl, rfl, by go_num, hF2⟩
                    case measure => simp [intOf]; omega
                | some g =>
                  rw [hg] at hcell
                  unfold ptr at hcell
                  have HG : Hid (IsGrp w4 g (D.X g) (D.ch g) (D.tm g) (D.ta g) (D.tn g) (D.tc g)) := HC.out.isGr k g hlt hg
                  have HGk : Hid (D.G k = some g) := hg
                  clear hg
                  as_aux_lemma =>
                    go_wp2_with fail
                    refine (rec12 g _ _ HG.out.log).mono ?_
                    rintro e wz ⟨rfl, rfl⟩
                    have hc := HG.out.chg
                    by_cases hz : Zero (D.X g) = true
                    · rw [hz]
                      have hF2 := HF.out.skip (fun g' h h' => by rw [HGk.out] at h; cases h; rw [h'] at hz; cases hz)
                      clear hz
                      go_wp2
                      go_round
                      case rel => exact ⟨fb, most, k + 1, by omega, rfl, rfl, by go_num, hF2⟩
                      case measure => simp [intOf]; omega
                    · have hz : Zero (D.X g) = false := by simpa using hz
                      rw [hz]
                      cases fb with
                      | false =>
                        have hF2 := HF.out.take HGk.out hz (fun h => by cases h)
                        clear hz
                        go_wp2
                        go_round
                        case rel => exact ⟨true, _, k + 1, by omega, rfl, rfl, by go_num, hF2⟩
                        case measure => simp [intOf]; omega
                      | true =>
                        by_cases hm3 : most < D.ch g
                        · have hF2 := HF.out.take HGk.out hz (fun _ => hm3)
                          have hd : decide (most < D.ch g) = true := by simpa using hm3
                          clear hz hm3
                          go_wp2
                          go_round
                          case rel => exact ⟨true, _, k + 1, by omega, rfl, rfl, by go_num, hF2⟩
                          case measure => simp [intOf]; omega
                        · have hF2 := HF.out.skip (fun g' h _ => by rw [HGk.out] at h; cases h; exact ⟨rfl, by omega⟩)
                          have hd : decide (most < D.ch g) = false := by simpa using hm3
                          clear hz hm3
                          go_wp2
                          go_round
                          case rel => exact ⟨true, most, k + 1, by omega, rfl, rfl, by go_num, hF2⟩
                          case measure => simp [intOf]; omega
              · have hkm : k = m := by omega
                subst hkm
                clear hlt
                cases fb with
                | false =>
                  cases p with
                  | none =>
                    have e3 := Hp.out
                    unfold ptr at e3
                    subst e3
                    as_aux_lemma =>
                      go_wp2
                      go_ret
                      exact ⟨rfl, hB⟩
                  | some u =>
                    exfalso
                    obtain ⟨i, hi, hGi, hzi, _⟩ := Hch.out
                    rcases HF.out with ⟨_, h⟩ | ⟨h, _⟩
                    · rw [h i u hi hGi] at hzi
                      cases hzi
                    · cases h
                | true =>
                  cases p with
                  | none =>
                    exfalso
                    rcases HF.out with ⟨h, _⟩ | ⟨_, ⟨j, g, h1, h2, h3, _⟩, _⟩
                    · cases h
                    · rw [Hch.out j g h1 h2] at h3
                      cases h3
                  | some u =>
                    have e3 := Hp.out
                    unfold ptr at e3
                    subst e3
                    obtain ⟨I, hI, hGI, hzI, hmaxI, halt⟩ := Hch.out
                    have HGI : Hid (D.G I = some u) := hGI
                    have HzI : Hid (Zero (D.X u) = false) := hzI
                    have HmaxI : Hid (∀ j g, j < k → D.G j = some g → Zero (D.X g) = false → D.K g ≤ D.K u) := hmaxI
                    have Halt : Hid ((∃ s, D.S I = some s ∧ 0 < D.ac s ∧ ∀ j g r, j < k → D.G j = some g → Late D u g → D.S j = some r → (D.ac r < D.ac s ∨ (D.ac r = D.ac s ∧ D.fl r ≤ D.fl s))) ∨ ((∀ j g r, j < k → D.G j = some g → Late D u g → D.S j = some r → D.ac r ≤ 0) ∧ ∀ j g, j < k → D.G j = some g → Late D u g → D.tm g ≤ D.tm u)) := halt
                    clear hGI hzI hmaxI halt hk e1 e2
                    have q36 : ∀ (w : World) (a : Option Addr) (n c n' c' : Nat), (binOp .neq 36 (.slice a n c) (.slice none n' c')).run Try.prog w = .ok (.bool a.isSome) w := fun w a n c n' c' => by
                      rw [run_neq_slice_nil_any w 36 _ a n c n' c' Try.underlying36]
                      cases a <;> rfl
                    go_wp2
                    go_loop [12, 13] (fun u i => ∃ (uw : Bool) (k2 : Nat), k2 ≤ k ∧ u = .bool uw ∧ i = .int .i64 k2 ∧ Under D k2 most uw) (fun _ i => k - (intOf i).toNat)
                    case atStart => exact ⟨false, 0, Nat.zero_le _, rfl, rfl, under_zero D most⟩
                    case round =>
                      obtain ⟨uw, k2, hk2, rfl, rfl, hU⟩ := hrel
                      have HU : Hid (Under D k2 most uw) := hU
                      clear hU
                      by_cases hlt : k2 < k
                      · obtain ⟨B, rfl, hcell⟩ := HC.out.gr k2 hlt
                        cases hg : D.G k2 with
                        | none =>
                          have hU2 := HU.out.skip (fun g h => by rw [hg] at h; cases h)
                          rw [hg] at hcell
                          unfold ptr at hcell
                          clear hg
                          as_aux_lemma =>
                            go_wp2_with fail
                            refine (rec12n _).mono ?_
                            rintro e wz ⟨rfl, rfl⟩
                            go_wp2
                            go_round
                            case rel => exact ⟨uw, k2 + 1, by omega, rfl, by go_num, hU2⟩
                            case measure => simp [intOf]; omega
                        | some g =>
                          rw [hg] at hcell
                          unfold ptr at hcell
                          have HG : Hid (IsGrp w4 g (D.X g) (D.ch g) (D.tm g) (D.ta g) (D.tn g) (D.tc g)) := HC.out.isGr k2 g hlt hg
                          have HGk : Hid (D.G k2 = some g) := hg
                          clear hg
                          as_aux_lemma =>
                            go_wp2_with fail
                            refine (rec12 g _ _ HG.out.log).mono ?_
                            rintro e wz ⟨rfl, rfl⟩
                            have hc := HG.out.chg
                            have ht := HG.out.to
                            by_cases hz : Zero (D.X g) = true
                            · rw [hz]
                              have hU2 := HU.out.skip (fun g' h h' _ _ => by rw [HGk.out] at h; cases h; rw [h'] at hz; cases hz)
                              clear hz
                              go_wp2
                              go_round
                              case rel => exact ⟨uw, k2 + 1, by omega, rfl, by go_num, hU2⟩
                              case measure => simp [intOf]; omega
                            · have hz : Zero (D.X g) = false := by simpa using hz
                              rw [hz]
                              by_cases hm3 : D.ch g = most
                              · have hd : (D.ch g == most) = true := by simpa using hm3
                                cases hs : (D.ta g).isSome with
                                | false =>
                                  have hU2 := HU.out.skip (fun g' h _ _ h' => by rw [HGk.out] at h; cases h; rw [hs] at h'; cases h')
                                  clear hz hm3
                                  go_wp2
                                  go_round
                                  case rel => exact ⟨uw, k2 + 1, by omega, rfl, by go_num, hU2⟩
                                  case measure => simp [intOf]; omega
                                | true =>
                                  have hU2 := Under.take HGk.out hz hm3 hs
                                  clear hz hm3
                                  go_wp2
                                  go_round
                                  case rel => exact ⟨true, k2 + 1, by omega, rfl, by go_num, hU2⟩
                                  case measure => simp [intOf]; omega
                              · have hd : (D.ch g == most) = false := by simpa using hm3
                                have hU2 := HU.out.skip (fun g' h _ h' _ => by rw [HGk.out] at h; cases h; exact absurd h' hm3)
                                clear hz hm3
                                go_wp2
                                go_round
                                case rel => exact ⟨uw, k2 + 1, by omega, rfl, by go_num, hU2⟩
                                case measure => simp [intOf]; omega
                      · have hkm : k2 = k := by omega
                        subst hkm
                        clear hlt hk2 q36
                        have HK : Hid (D.K u = 2 * most + (if uw then 1 else 0)) := key_of HF.out HU.out hI HGI.out HzI.out HmaxI.out
                        clear HU HF
                        have u30 := Try.underlying30
                        go_wp2
                        go_loop [14, 15] (fun iv jv => ∃ (x : Int) (k3 : Nat), k3 ≤ k2 ∧ iv = .int .i64 x ∧ jv = .int .i64 k3 ∧ ((k3 ≤ I ∧ x = -1) ∨ (I < k3 ∧ x = (I : Int)))) (fun _ i => k2 - (intOf i).toNat)
                        case atStart => exact ⟨-1, 0, Nat.zero_le _, rfl, rfl, .inl ⟨Nat.zero_le _, rfl⟩⟩
                        case round =>
                          obtain ⟨x, k3, hk3, rfl, rfl, hx⟩ := hrel
                          by_cases hlt : k3 < k2
                          · obtain ⟨B, rfl, hcell⟩ := HC.out.gr k3 hlt
                            rcases hx with ⟨hx1, rfl⟩ | ⟨hx1, rfl⟩
                            · cases hg : D.G k3 with
                              | none =>
                                have hne : k3 ≠ I := fun e => by rw [e, HGI.out] at hg; cases hg
                                have hq := eqNil u w4
                                rw [hg] at hcell
                                unfold ptr at hcell
                                clear hg
                                as_aux_lemma =>
                                  go_wp2
                                  go_round
                                  case rel => exact ⟨-1, k3 + 1, by omega, rfl, by go_num, .inl ⟨by omega, rfl⟩⟩
                                  case measure => simp [intOf]; omega
                              | some g =>
                                rw [hg] at hcell
                                unfold ptr at hcell
                                by_cases hgu : g = u
                                · subst hgu
                                  have HkI : Hid (k3 = I) := HC.out.apart k3 I g hlt hI hg HGI.out
                                  have hq := eqSame g w4
                                  clear hg
                                  as_aux_lemma =>
                                    go_wp2
                                    go_round
                                    case rel => exact ⟨k3, k3 + 1, by omega, rfl, by go_num, .inr ⟨by have := HkI.out; omega, by have := HkI.out; omega⟩⟩
                                    case measure => simp [intOf]; omega
                                · have hne : k3 ≠ I := fun e => by rw [e, HGI.out] at hg; cases hg; exact hgu rfl
                                  have hq := eqOther hgu (HC.out.isGr k3 g hlt hg) (HC.out.isGr I u hI HGI.out)
                                  clear hg
                                  as_aux_lemma =>
                                    go_wp2
                                    go_round
                                    case rel => exact ⟨-1, k3 + 1, by omega, rfl, by go_num, .inl ⟨by omega, rfl⟩⟩
                                    case measure => simp [intOf]; omega
                            · have hI0 : ¬ ((I : Int) < 0) := by omega
                              as_aux_lemma =>
                                go_wp2
                                go_round
                                case rel => exact ⟨_, k3 + 1, by omega, rfl, by go_num, .inr ⟨by omega, rfl⟩⟩
                                case measure => simp [intOf]; omega
                          · have hkm : k3 = k2 := by omega
                            subst hkm
                            obtain rfl : x = (I : Int) := by
                              rcases hx with ⟨h, _⟩ | ⟨_, h⟩
                              · omega
                              · exact h
                            clear hx hlt hk3
                            have hI0 : ¬ ((I : Int) < 0) := by omega
                            obtain ⟨B, rfl, hcell⟩ := HC.out.gr I hI
                            rw [HGI.out] at hcell
                            unfold ptr at hcell
                            have HGu : Hid (IsGrp w4 u (D.X u) (D.ch u) (D.tm u) (D.ta u) (D.tn u) (D.tc u)) := HC.out.isGr I u hI HGI.out
                            go_wp2_with fail
                            refine (latest13 u _ _ _ _ _ _ _ _ _ HGu.out).mono ?_
                            rintro e wz ⟨rfl, rfl⟩
                            have hr : (!Zero (D.X u) && decide (key (D.ch u) (D.ta u) = 2 * most + (if uw then 1 else 0))) = true := by
                              have := HK.out
                              unfold Data.K at this
                              simp [HzI.out, this]
                            rw [hr]
                            clear hr hcell
                            go_wp2
                            go_loop [16, 17] (fun a j => ∃ (x : Int) (k4 : Nat), k4 ≤ k3 ∧ a = .int .u64 x ∧ j = .int .i64 k4 ∧ MaxOf (AccAt D (D.K u)) k4 x) (fun _ i => k3 - (intOf i).toNat)
                            case atStart => exact ⟨0, 0, Nat.zero_le _, rfl, rfl, maxOf_zero _⟩
                            case round =>
                              obtain ⟨x, k4, hk4, rfl, rfl, hM⟩ := hrel
                              have HM : Hid (MaxOf (AccAt D (D.K u)) k4 x) := hM
                              clear hM
                              by_cases hlt : k4 < k3
                              · have hcell : w4.cell? ⟨B, k4, none⟩ = some (ptr (D.G k4)) := by
                                  obtain ⟨B', hB', h⟩ := HC.out.gr k4 hlt
                                  cases hB'
                                  exact h
                                cases hg : D.G k4 with
                                | none =>
                                  have hM2 := HM.out.keep (fun v h => by obtain ⟨_, _, h, _⟩ := h; rw [hg] at h; cases h)
                                  rw [hg] at hcell
                                  unfold ptr at hcell
                                  clear hg
                                  as_aux_lemma =>
                                    go_wp2_with fail
                                    refine (latest13n _ _ _).mono ?_
                                    rintro e wz ⟨rfl, rfl⟩
                                    go_wp2
                                    go_round
                                    case rel => exact ⟨x, k4 + 1, by omega, rfl, by go_num, hM2⟩
                                    case measure => simp [intOf]; omega
                                | some g =>
                                  rw [hg] at hcell
                                  unfold ptr at hcell
                                  have HG : Hid (IsGrp w4 g (D.X g) (D.ch g) (D.tm g) (D.ta g) (D.tn g) (D.tc g)) := HC.out.isGr k4 g hlt hg
                                  have HGk : Hid (D.G k4 = some g) := hg
                                  clear hg
                                  as_aux_lemma =>
                                    go_wp2_with fail
                                    refine (latest13 g _ _ _ _ _ _ _ _ _ HG.out).mono ?_
                                    rintro e wz ⟨rfl, rfl⟩
                                    by_cases hL : Zero (D.X g) = false ∧ D.K g = D.K u
                                    · have hr : (!Zero (D.X g) && decide (key (D.ch g) (D.ta g) = 2 * most + (if uw then 1 else 0))) = true := by
                                        have := HK.out
                                        unfold Data.K at this hL
                                        simp [hL.1]
                                        omega
                                      rw [hr]
                                      have HL : Hid (Zero (D.X g) = false ∧ D.K g = D.K u) := hL
                                      clear hr hL
                                      obtain ⟨Bs, rfl, hcs⟩ := HC.out.st k4 hlt
                                      cases hs : D.S k4 with
                                      | none =>
                                        have hM2 := HM.out.keep (fun v h => by obtain ⟨_, _, _, _, _, h, _⟩ := h; rw [hs] at h; cases h)
                                        rw [hs] at hcs
                                        unfold ptr at hcs
                                        clear hs
                                        go_wp2
                                        go_round
                                        case rel => exact ⟨x, k4 + 1, by omega, rfl, by go_num, hM2⟩
                                        case measure => simp [intOf]; omega
                                      | some s =>
                                        have c2 := (HC.out.isSt k4 s hlt hs).c2
                                        have hP : ∀ v, AccAt D (D.K u) k4 v → v = D.ac s := fun v h => by obtain ⟨_, r, _, _, _, h, rfl⟩ := h; rw [hs] at h; cases h; rfl
                                        by_cases ha : x < D.ac s
                                        · have hM2 := HM.out.take ⟨g, s, HGk.out, HL.out.1, HL.out.2, hs, rfl⟩ ha hP
                                          have hd : decide (x < D.ac s) = true := by simpa using ha
                                          rw [hs] at hcs
                                          unfold ptr at hcs
                                          clear hs ha hP
                                          go_wp2
                                          go_round
                                          case rel => exact ⟨_, k4 + 1, by omega, rfl, by go_num, hM2⟩
                                          case measure => simp [intOf]; omega
                                        · have hM2 := HM.out.keep (fun v h => by have := hP v h; omega)
                                          have hd : decide (x < D.ac s) = false := by simpa using ha
                                          rw [hs] at hcs
                                          unfold ptr at hcs
                                          clear hs ha hP
                                          go_wp2
                                          go_round
                                          case rel => exact ⟨x, k4 + 1, by omega, rfl, by go_num, hM2⟩
                                          case measure => simp [intOf]; omega
                                    · have hr : (!Zero (D.X g) && decide (key (D.ch g) (D.ta g) = 2 * most + (if uw then 1 else 0))) = false := by
                                        have := HK.out
                                        unfold Data.K at this hL
                                        rw [← this]
                                        cases hz : Zero (D.X g) with
                                        | true => simp
                                        | false =>
                                          simp
                                          exact fun h => hL ⟨hz, h⟩
                                      rw [hr]
                                      have hM2 := HM.out.keep (fun v h => by obtain ⟨g', _, h1, h2, h3, _⟩ := h; rw [HGk.out] at h1; cases h1; exact absurd ⟨h2, h3⟩ hL)
                                      clear hL hr
                                      go_wp2
                                      go_round
                                      case rel => exact ⟨x, k4 + 1, by omega, rfl, by go_num, hM2⟩
                                      case measure => simp [intOf]; omega
                              · have hkm : k4 = k3 := by omega
                                subst hkm
                                clear hlt hk4
                                have HA : Hid (MaxOf (AccAt D (D.K u)) k4 x) := HM.out
                                clear HM
                                have HCs0 : ∃ Bs, A = some ⟨Bs, 0, none⟩ := by
                                  obtain ⟨Bs, h, _⟩ := HC.out.st I hI
                                  exact ⟨Bs, h⟩
                                obtain ⟨Bs, rfl⟩ := HCs0
                                have HCs : Hid (∀ j, j < k4 → w4.cell? ⟨Bs, j, none⟩ = some (ptr (D.S j))) := fun j hj => by
                                  obtain ⟨B', hB', h⟩ := HC.out.st j hj
                                  cases hB'
                                  exact h
                                by_cases hpa : 0 < x
                                · have hd0 : decide (0 < x) = true := by simpa using hpa
                                  go_wp2
                                  go_loop [18, 19] (fun a j => ∃ (y : Int) (k5 : Nat), k5 ≤ k4 ∧ a = .int .u64 y ∧ j = .int .i64 k5 ∧ MaxOf (FluAt D (D.K u) x) k5 y) (fun _ i => k4 - (intOf i).toNat)
                                  case atStart => exact ⟨0, 0, Nat.zero_le _, rfl, rfl, maxOf_zero _⟩
                                  case round =>
                                    obtain ⟨y, k5, hk4, rfl, rfl, hM⟩ := hrel
                                    have HM : Hid (MaxOf (FluAt D (D.K u) x) k5 y) := hM
                                    clear hM
                                    by_cases hlt : k5 < k4
                                    · have hcell : w4.cell? ⟨B, k5, none⟩ = some (ptr (D.G k5)) := by
                                        obtain ⟨B', hB', h⟩ := HC.out.gr k5 hlt
                                        cases hB'
                                        exact h
                                      cases hg : D.G k5 with
                                      | none =>
                                        have hM2 := HM.out.keep (fun v h => by obtain ⟨_, _, h, _⟩ := h; rw [hg] at h; cases h)
                                        rw [hg] at hcell
                                        unfold ptr at hcell
                                        clear hg
                                        as_aux_lemma =>
                                          go_wp2_with fail
                                          refine (latest13n _ _ _).mono ?_
                                          rintro e wz ⟨rfl, rfl⟩
                                          go_wp2
                                          go_round
                                          case rel => exact ⟨y, k5 + 1, by omega, rfl, by go_num, hM2⟩
                                          case measure => simp [intOf]; omega
                                      | some g =>
                                        rw [hg] at hcell
                                        unfold ptr at hcell
                                        have HG : Hid (IsGrp w4 g (D.X g) (D.ch g) (D.tm g) (D.ta g) (D.tn g) (D.tc g)) := HC.out.isGr k5 g hlt hg
                                        have HGk : Hid (D.G k5 = some g) := hg
                                        clear hg
                                        as_aux_lemma =>
                                          go_wp2_with fail
                                          refine (latest13 g _ _ _ _ _ _ _ _ _ HG.out).mono ?_
                                          rintro e wz ⟨rfl, rfl⟩
                                          by_cases hL : Zero (D.X g) = false ∧ D.K g = D.K u
                                          · have hr : (!Zero (D.X g) && decide (key (D.ch g) (D.ta g) = 2 * most + (if uw then 1 else 0))) = true := by
                                              have := HK.out
                                              unfold Data.K at this hL
                                              simp [hL.1]
                                              omega
                                            rw [hr]
                                            have HL : Hid (Zero (D.X g) = false ∧ D.K g = D.K u) := hL
                                            clear hr hL
                                            have hcs := HCs.out k5 hlt
                                            cases hs : D.S k5 with
                                            | none =>
                                              have hM2 := HM.out.keep (fun v h => by obtain ⟨_, _, _, _, _, h, _⟩ := h; rw [hs] at h; cases h)
                                              rw [hs] at hcs
                                              unfold ptr at hcs
                                              clear hs
                                              go_wp2
                                              go_round
                                              case rel => exact ⟨y, k5 + 1, by omega, rfl, by go_num, hM2⟩
                                              case measure => simp [intOf]; omega
                                            | some s =>
                                              have c2 := (HC.out.isSt k5 s hlt hs).c2
                                              have c6 := (HC.out.isSt k5 s hlt hs).c6
                                              have hP : ∀ v, FluAt D (D.K u) x k5 v → D.ac s = x ∧ v = D.fl s := fun v h => by obtain ⟨_, r, _, _, _, h, h', rfl⟩ := h; rw [hs] at h; cases h; exact ⟨h', rfl⟩
                                              by_cases he : D.ac s = x
                                              · have hd1 : (D.ac s == x) = true := by simpa using he
                                                by_cases ha : y < D.fl s
                                                · have hM2 := HM.out.take ⟨g, s, HGk.out, HL.out.1, HL.out.2, hs, he, rfl⟩ ha (fun v h => (hP v h).2)
                                                  have hd : decide (y < D.fl s) = true := by simpa using ha
                                                  rw [hs] at hcs
                                                  unfold ptr at hcs
                                                  clear hs ha hP he
                                                  go_wp2
                                                  go_round
                                                  case rel => exact ⟨_, k5 + 1, by omega, rfl, by go_num, hM2⟩
                                                  case measure => simp [intOf]; omega
                                                · have hM2 := HM.out.keep (fun v h => by have := (hP v h).2; omega)
                                                  have hd : decide (y < D.fl s) = false := by simpa using ha
                                                  rw [hs] at hcs
                                                  unfold ptr at hcs
                                                  clear hs ha hP he
                                                  go_wp2
                                                  go_round
                                                  case rel => exact ⟨y, k5 + 1, by omega, rfl, by go_num, hM2⟩
                                                  case measure => simp [intOf]; omega
                                              · have hd1 : (D.ac s == x) = false := by simpa using he
                                                have hM2 := HM.out.keep (fun v h => absurd (hP v h).1 he)
                                                rw [hs] at hcs
                                                unfold ptr at hcs
                                                clear hs hP he
                                                go_wp2
                                                go_round
                                                case rel => exact ⟨y, k5 + 1, by omega, rfl, by go_num, hM2⟩
                                                case measure => simp [intOf]; omega
                                          · have hr : (!Zero (D.X g) && decide (key (D.ch g) (D.ta g) = 2 * most + (if uw then 1 else 0))) = false := by
                                              have := HK.out
                                              unfold Data.K at this hL
                                              rw [← this]
                                              cases hz : Zero (D.X g) with
                                              | true => simp
                                              | false =>
                                                simp
                                                exact fun h => hL ⟨hz, h⟩
                                            rw [hr]
                                            have hM2 := HM.out.keep (fun v h => by obtain ⟨g', _, h1, h2, h3, _⟩ := h; rw [HGk.out] at h1; cases h1; exact absurd ⟨h2, h3⟩ hL)
                                            clear hL hr
                                            go_wp2
                                            go_round
                                            case rel => exact ⟨y, k5 + 1, by omega, rfl, by go_num, hM2⟩
                                            case measure => simp [intOf]; omega
                                    · have hkm : k5 = k4 := by omega
                                      subst hkm
                                      clear hlt hk4
                                      rcases Halt.out with ⟨s, hS, hpos, hbest⟩ | ⟨hno, _⟩
                                      · have hcs := HCs.out I hI
                                        rw [hS] at hcs
                                        unfold ptr at hcs
                                        have hIs := HC.out.isSt I s hI hS
                                        have hacc := fin_acc hI HGI.out HzI.out hS hbest HA.out hpos
                                        have hfl := fin_flu hI HGI.out HzI.out hS hbest hacc HM.out hIs.p6
                                        have c2 := hIs.c2
                                        have c6 := hIs.c6
                                        rw [hacc] at c2
                                        rw [hfl] at c6
                                        clear hIs hbest hpos hS hacc hfl
                                        as_aux_lemma =>
                                          go_wp2
                                          go_ret
                                          exact ⟨rfl, hB⟩
                                      · exact (no_acc hno HA.out hpa).elim
                                · have hd0 : decide (0 < x) = false := by simpa using hpa
                                  go_wp2
                                  go_loop [20, 21] (fun a j => ∃ (y : Int) (k5 : Nat), k5 ≤ k4 ∧ a = .int .u64 y ∧ j = .int .i64 k5 ∧ MaxOf (TrmAt D (D.K u)) k5 y) (fun _ i => k4 - (intOf i).toNat)
                                  case atStart => exact ⟨0, 0, Nat.zero_le _, rfl, rfl, maxOf_zero _⟩
                                  case round =>
                                    obtain ⟨y, k5, hk4, rfl, rfl, hM⟩ := hrel
                                    have HM : Hid (MaxOf (TrmAt D (D.K u)) k5 y) := hM
                                    clear hM
                                    by_cases hlt : k5 < k4
                                    · have hcell : w4.cell? ⟨B, k5, none⟩ = some (ptr (D.G k5)) := by
                                        obtain ⟨B', hB', h⟩ := HC.out.gr k5 hlt
                                        cases hB'
                                        exact h
                                      cases hg : D.G k5 with
                                      | none =>
                                        have hM2 := HM.out.keep (fun v h => by obtain ⟨_, h, _⟩ := h; rw [hg] at h; cases h)
                                        rw [hg] at hcell
                                        unfold ptr at hcell
                                        clear hg
                                        as_aux_lemma =>
                                          go_wp2_with fail
                                          refine (latest13n _ _ _).mono ?_
                                          rintro e wz ⟨rfl, rfl⟩
                                          go_wp2
                                          go_round
                                          case rel => exact ⟨y, k5 + 1, by omega, rfl, by go_num, hM2⟩
                                          case measure => simp [intOf]; omega
                                      | some g =>
                                        rw [hg] at hcell
                                        unfold ptr at hcell
                                        have HG : Hid (IsGrp w4 g (D.X g) (D.ch g) (D.tm g) (D.ta g) (D.tn g) (D.tc g)) := HC.out.isGr k5 g hlt hg
                                        have HGk : Hid (D.G k5 = some g) := hg
                                        clear hg
                                        as_aux_lemma =>
                                          go_wp2_with fail
                                          refine (latest13 g _ _ _ _ _ _ _ _ _ HG.out).mono ?_
                                          rintro e wz ⟨rfl, rfl⟩
                                          by_cases hL : Zero (D.X g) = false ∧ D.K g = D.K u
                                          · have hr : (!Zero (D.X g) && decide (key (D.ch g) (D.ta g) = 2 * most + (if uw then 1 else 0))) = true := by
                                              have := HK.out
                                              unfold Data.K at this hL
                                              simp [hL.1]
                                              omega
                                            rw [hr]
                                            have HL : Hid (Zero (D.X g) = false ∧ D.K g = D.K u) := hL
                                            clear hr hL
                                            have c2 := HG.out.trm
                                            have hP : ∀ v, TrmAt D (D.K u) k5 v → v = D.tm g := fun v h => by obtain ⟨_, h, _, _, rfl⟩ := h; rw [HGk.out] at h; cases h; rfl
                                            by_cases ha : y < D.tm g
                                            · have hM2 := HM.out.take ⟨g, HGk.out, HL.out.1, HL.out.2, rfl⟩ ha hP
                                              have hd : decide (y < D.tm g) = true := by simpa using ha
                                              clear ha hP
                                              go_wp2
                                              go_round
                                              case rel => exact ⟨_, k5 + 1, by omega, rfl, by go_num, hM2⟩
                                              case measure => simp [intOf]; omega
                                            · have hM2 := HM.out.keep (fun v h => by have := hP v h; omega)
                                              have hd : decide (y < D.tm g) = false := by simpa using ha
                                              clear ha hP
                                              go_wp2
                                              go_round
                                              case rel => exact ⟨y, k5 + 1, by omega, rfl, by go_num, hM2⟩
                                              case measure => simp [intOf]; omega
                                          · have hr : (!Zero (D.X g) && decide (key (D.ch g) (D.ta g) = 2 * most + (if uw then 1 else 0))) = false := by
                                              have := HK.out
                                              unfold Data.K at this hL
                                              rw [← this]
                                              cases hz : Zero (D.X g) with
                                              | true => simp
                                              | false =>
                                                simp
                                                exact fun h => hL ⟨hz, h⟩
                                            rw [hr]
                                            have hM2 := HM.out.keep (fun v h => by obtain ⟨g', h1, h2, h3, _⟩ := h; rw [HGk.out] at h1; cases h1; exact absurd ⟨h2, h3⟩ hL)
                                            clear hL hr
                                            go_wp2
                                            go_round
                                            case rel => exact ⟨y, k5 + 1, by omega, rfl, by go_num, hM2⟩
                                            case measure => simp [intOf]; omega
                                    · have hkm : k5 = k4 := by omega
                                      subst hkm
                                      clear hlt hk4
                                      rcases Halt.out with ⟨s, hS, hpos, _⟩ | ⟨_, htm⟩
                                      · exact (no_pos hI HGI.out HzI.out hS HA.out hpos (by omega)).elim
                                      · have hcell : w4.cell? ⟨B, I, none⟩ = some (ptr (D.G I)) := by
                                          obtain ⟨B', hB', h⟩ := HC.out.gr I hI
                                          cases hB'
                                          exact h
                                        rw [HGI.out] at hcell
                                        unfold ptr at hcell
                                        have ht := fin_trm hI HGI.out HzI.out htm HM.out HGu.out.p2
                                        have c2 := HGu.out.trm
                                        rw [ht] at c2
                                        clear ht htm
                                        as_aux_lemma =>
                                          go_wp2
                                          go_ret
                                          exact ⟨rfl, hB⟩
          · have hne : ((m : Int) != (n : Int)) = true := by simp; omega
            go_wp2
            go_ret
            exact ⟨rfl, hb1⟩
      · go_wp2
        all_goals (go_ret; exact ⟨rfl, Below.refl _ _⟩)
    · go_wp2
      all_goals (go_ret; exact ⟨rfl, Below.refl _ _⟩)

end Go.Proofs.Qxb6600165a.Grp
