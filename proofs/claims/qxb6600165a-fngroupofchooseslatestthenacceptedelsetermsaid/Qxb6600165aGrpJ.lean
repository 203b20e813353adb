import Derived.Test.Qxb6600165aGrpI
namespace Go.Proofs.Qxb6600165a.Grp
open Go.RowKit

def Gives (D : Data) (n : Nat) (w : World) (e : Ending) (w' : World) : Prop := ∃ p, e = .returned (ptr p) ∧ Chosen D n p ∧ Draws w w'

set_option maxRecDepth 100000 in
set_option maxHeartbeats 8000000 in
theorem group11 (A C : Option Addr) (n : Nat) (D : Data) (w : World) (hC : Copies w n A C D) :
    Calls Try.prog 11 #[.slice A n n, .slice C n n] w fun e w' => Gives D n w e w' := by
  have hn := hC.le
  have HC : Hid (Copies w n A C D) := hC
  clear hC
  go_enter Try.func11, Try.ntmps11
  go_wp2
  go_loopw [5, 16] (fun t i wr => ∃ (top : Option Nat) (k : Nat), k ≤ n ∧ t = ptr top ∧ i = .int .i64 k ∧ Top D k top ∧ Draws w wr) (fun _ i _ => n - (intOf i).toNat)
  case atStart => exact ⟨none, 0, Nat.zero_le _, rfl, rfl, top_zero D, 0, rfl⟩
  case round =>
    obtain ⟨top, k, hk, rfl, rfl, htop, q, rfl⟩ := hrel
    have HT : Hid (Top D k top) := htop
    clear htop
    by_cases hlt : k < n
    · obtain ⟨B, rfl, hcell⟩ := HC.out.gr k hlt
      cases hg : D.G k with
      | none =>
        have hT2 := HT.out.skip (fun g h => by rw [hg] at h; cases h)
        rw [hg] at hcell
        unfold ptr at hcell
        clear hg
        cases top with
        | none =>
          as_aux_lemma =>
            unfold ptr
            go_wp2
            go_roundw
            case rel => exact ⟨_, k + 1, by omega, by rfl, by go_num, hT2, q, rfl⟩
            case measure => simp [intOf]; omega
        | some t =>
          as_aux_lemma =>
            unfold ptr
            go_wp2
            go_roundw
            case rel => exact ⟨_, k + 1, by omega, by rfl, by go_num, hT2, q, rfl⟩
            case measure => simp [intOf]; omega
      | some g =>
        rw [hg] at hcell
        unfold ptr at hcell
        have hG := HC.out.isGr k g hlt hg
        have l0 := hG.log 0 (by omega)
        have l1 := hG.log 1 (by omega)
        have l2 := hG.log 2 (by omega)
        have l3 := hG.log 3 (by omega)
        have l4 := hG.log 4 (by omega)
        have l5 := hG.log 5 (by omega)
        have l6 := hG.log 6 (by omega)
        have l7 := hG.log 7 (by omega)
        have l8 := hG.log 8 (by omega)
        have l9 := hG.log 9 (by omega)
        have l10 := hG.log 10 (by omega)
        have l11 := hG.log 11 (by omega)
        have l12 := hG.log 12 (by omega)
        have l13 := hG.log 13 (by omega)
        have l14 := hG.log 14 (by omega)
        have l15 := hG.log 15 (by omega)
        have HG : Hid (IsGrp w g (D.X g) (D.ch g) (D.tm g) (D.ta g) (D.tn g) (D.tc g)) := hG
        clear hG
        have HGk : Hid (D.G k = some g) := hg
        clear hg
        by_cases hz : Zero (D.X g) = true
        · have hq : ∀ w, (Op.equalIn 10000 35 (.agg #[.int .u8 (D.X g 0), .int .u8 (D.X g 1), .int .u8 (D.X g 2), .int .u8 (D.X g 3), .int .u8 (D.X g 4), .int .u8 (D.X g 5), .int .u8 (D.X g 6), .int .u8 (D.X g 7), .int .u8 (D.X g 8), .int .u8 (D.X g 9), .int .u8 (D.X g 10), .int .u8 (D.X g 11), .int .u8 (D.X g 12), .int .u8 (D.X g 13), .int .u8 (D.X g 14), .int .u8 (D.X g 15)]) (.agg #[.int .u8 0, .int .u8 0, .int .u8 0, .int .u8 0, .int .u8 0, .int .u8 0, .int .u8 0, .int .u8 0, .int .u8 0, .int .u8 0, .int .u8 0, .int .u8 0, .int .u8 0, .int .u8 0, .int .u8 0, .int .u8 0])).run Try.prog w = .ok true w := fun w => by rw [eqZero, hz]
          have hT2 := HT.out.skip (fun g' h => by rw [HGk.out] at h; cases h; exact hz)
          clear hz
          cases top with
          | none =>
            as_aux_lemma =>
              unfold ptr
              go_wp2
              go_roundw
              case rel => exact ⟨_, k + 1, by omega, by rfl, by go_num, hT2, q, rfl⟩
              case measure => simp [intOf]; omega
          | some t =>
            as_aux_lemma =>
              unfold ptr
              go_wp2
              go_roundw
              case rel => exact ⟨_, k + 1, by omega, by rfl, by go_num, hT2, q, rfl⟩
              case measure => simp [intOf]; omega
        · have hz : Zero (D.X g) = false := by simpa using hz
          have hq : ∀ w, (Op.equalIn 10000 35 (.agg #[.int .u8 (D.X g 0), .int .u8 (D.X g 1), .int .u8 (D.X g 2), .int .u8 (D.X g 3), .int .u8 (D.X g 4), .int .u8 (D.X g 5), .int .u8 (D.X g 6), .int .u8 (D.X g 7), .int .u8 (D.X g 8), .int .u8 (D.X g 9), .int .u8 (D.X g 10), .int .u8 (D.X g 11), .int .u8 (D.X g 12), .int .u8 (D.X g 13), .int .u8 (D.X g 14), .int .u8 (D.X g 15)]) (.agg #[.int .u8 0, .int .u8 0, .int .u8 0, .int .u8 0, .int .u8 0, .int .u8 0, .int .u8 0, .int .u8 0, .int .u8 0, .int .u8 0, .int .u8 0, .int .u8 0, .int .u8 0, .int .u8 0, .int .u8 0, .int .u8 0])).run Try.prog w = .ok false w := fun w => by rw [eqZero, hz]
          cases top with
          | none =>
            have hT2 := HT.out.first HGk.out hz
            clear hz
            as_aux_lemma =>
              unfold ptr
              go_wp2
              go_roundw
              case rel => exact ⟨some g, k + 1, by omega, by rfl, by go_num, hT2, q, rfl⟩
              case measure => simp [intOf]; omega
          | some t =>
            obtain ⟨⟨i, hi1, hi2⟩, _⟩ := HT.out
            have HTt : Hid (IsGrp w t (D.X t) (D.ch t) (D.tm t) (D.ta t) (D.tn t) (D.tc t)) := HC.out.isGr i t (by omega) hi2
            have Hz : Hid (Zero (D.X g) = false) := hz
            clear hz hi1 hi2
            as_aux_lemma =>
              unfold ptr
              go_wp2_with fail
              clear hq l0 l1 l2 l3 l4 l5 l6 l7 l8 l9 l10 l11 l12 l13 l14 l15 hcell
              refine (older22' t g _ _ _ _ _ _ _ _ _ _ _ _ _ w ⟨q, rfl⟩ HTt.out HG.out).mono ?_
              rintro e wz ⟨rfl, q', rfl⟩
              by_cases hk2 : D.K t < D.K g
              · have hT2 := HT.out.take HGk.out Hz.out hk2
                have hd : decide (key (D.ch t) (D.ta t) < key (D.ch g) (D.ta g)) = true := by simpa [Data.K] using hk2
                clear hk2
                rw [hd]
                go_wp2
                go_roundw
                case rel => exact ⟨some g, k + 1, by omega, by rfl, by go_num, hT2, q', rfl⟩
                case measure => simp [intOf]; omega
              · have hT2 := HT.out.keep HGk.out hk2
                have hd : decide (key (D.ch t) (D.ta t) < key (D.ch g) (D.ta g)) = false := by simpa [Data.K] using hk2
                clear hk2
                rw [hd]
                go_wp2
                go_roundw
                case rel => exact ⟨some t, k + 1, by omega, by rfl, by go_num, hT2, q', rfl⟩
                case measure => simp [intOf]; omega
    · have hkn : k = n := by omega
      subst hkn
      clear hlt
      cases top with
      | none =>
        unfold ptr
        go_wp2
        go_loopw [8, 9, 10, 43] (fun b o nw i wr => ∃ k2 : Nat, k2 ≤ k ∧ b = .pointer none ∧ o = .pointer none ∧ nw = .pointer none ∧ i = .int .i64 k2 ∧ Draws w wr) (fun _ _ _ i _ => k - (intOf i).toNat)
        case atStart => exact ⟨0, Nat.zero_le _, rfl, rfl, rfl, rfl, q, rfl⟩
        case round =>
          obtain ⟨k2, hk2, rfl, rfl, rfl, rfl, q2, rfl⟩ := hrel
          by_cases hlt : k2 < k
          · obtain ⟨B, rfl, hcell⟩ := HC.out.gr k2 hlt
            cases hg : D.G k2 with
            | none =>
              rw [hg] at hcell
              unfold ptr at hcell
              clear hg
              as_aux_lemma =>
                go_wp2
                go_roundw
                case rel => exact ⟨k2 + 1, by omega, rfl, rfl, rfl, by go_num, q2, rfl⟩
                case measure => simp [intOf]; omega
            | some g =>
              rw [hg] at hcell
              unfold ptr at hcell
              have hG := HC.out.isGr k2 g hlt hg
              have hz := HT.out k2 g hlt hg
              have l0 := hG.log 0 (by omega)
              have l1 := hG.log 1 (by omega)
              have l2 := hG.log 2 (by omega)
              have l3 := hG.log 3 (by omega)
              have l4 := hG.log 4 (by omega)
              have l5 := hG.log 5 (by omega)
              have l6 := hG.log 6 (by omega)
              have l7 := hG.log 7 (by omega)
              have l8 := hG.log 8 (by omega)
              have l9 := hG.log 9 (by omega)
              have l10 := hG.log 10 (by omega)
              have l11 := hG.log 11 (by omega)
              have l12 := hG.log 12 (by omega)
              have l13 := hG.log 13 (by omega)
              have l14 := hG.log 14 (by omega)
              have l15 := hG.log 15 (by omega)
              have hq : ∀ w, (Op.equalIn 10000 35 (.agg #[.int .u8 (D.X g 0), .int .u8 (D.X g 1), .int .u8 (D.X g 2), .int .u8 (D.X g 3), .int .u8 (D.X g 4), .int .u8 (D.X g 5), .int .u8 (D.X g 6), .int .u8 (D.X g 7), .int .u8 (D.X g 8), .int .u8 (D.X g 9), .int .u8 (D.X g 10), .int .u8 (D.X g 11), .int .u8 (D.X g 12), .int .u8 (D.X g 13), .int .u8 (D.X g 14), .int .u8 (D.X g 15)]) (.agg #[.int .u8 0, .int .u8 0, .int .u8 0, .int .u8 0, .int .u8 0, .int .u8 0, .int .u8 0, .int .u8 0, .int .u8 0, .int .u8 0, .int .u8 0, .int .u8 0, .int .u8 0, .int .u8 0, .int .u8 0, .int .u8 0])).run Try.prog w = .ok true w := fun w => by rw [eqZero, hz]
              clear hG hz hg
              as_aux_lemma =>
                go_wp2
                go_roundw
                case rel => exact ⟨k2 + 1, by omega, rfl, rfl, rfl, by go_num, q2, rfl⟩
                case measure => simp [intOf]; omega
          · go_wp2
            go_ret
            exact ⟨none, rfl, HT.out, q2, rfl⟩
      | some t =>
        unfold ptr
        have HTt : Hid (IsGrp w t (D.X t) (D.ch t) (D.tm t) (D.ta t) (D.tn t) (D.tc t)) := by
          obtain ⟨⟨i, hi1, hi2⟩, _⟩ := HT.out
          exact HC.out.isGr i t (by omega) hi2
        go_wp2
        go_loopw [8, 9, 10, 43] (fun b o nw i wr => ∃ (bo : Option (Nat × Nat)) (nn : Option Nat) (k2 : Nat), k2 ≤ k ∧ b = ptr (bo.map Prod.fst) ∧ o = ptr (bo.map Prod.snd) ∧ nw = ptr nn ∧ i = .int .i64 k2 ∧ Best D t k2 bo ∧ Newest D t k2 nn ∧ Draws w wr) (fun _ _ _ i _ => k - (intOf i).toNat)
        case atStart => exact ⟨none, none, 0, Nat.zero_le _, rfl, rfl, rfl, rfl, best_zero D t, newest_zero D t, q, rfl⟩
        case round =>
          obtain ⟨bo, nn, k2, hk2, rfl, rfl, rfl, rfl, hB, hN, q2, rfl⟩ := hrel
          have HB : Hid (Best D t k2 bo) := hB
          have HN : Hid (Newest D t k2 nn) := hN
          clear hB hN
          generalize hb0 : ptr (bo.map Prod.fst) = vb
          generalize ho0 : ptr (bo.map Prod.snd) = vo
          generalize hn0 : ptr nn = vn
          have Hb0 : Hid (vb = ptr (bo.map Prod.fst)) := hb0.symm
          have Ho0 : Hid (vo = ptr (bo.map Prod.snd)) := ho0.symm
          have Hn0 : Hid (vn = ptr nn) := hn0.symm
          clear hb0 ho0 hn0
          by_cases hlt : k2 < k
          · obtain ⟨B, rfl, hcell⟩ := HC.out.gr k2 hlt
            cases hg : D.G k2 with
            | none =>
              have hB2 := HB.out.skip (fun g h => by rw [hg] at h; cases h)
              have hN2 := HN.out.skip (fun g h => by rw [hg] at h; cases h)
              rw [hg] at hcell
              unfold ptr at hcell
              clear hg
              as_aux_lemma =>
                go_wp2
                go_roundw
                case rel => exact ⟨bo, nn, k2 + 1, by omega, Hb0.out, Ho0.out, Hn0.out, by go_num, hB2, hN2, q2, rfl⟩
                case measure => simp [intOf]; omega
            | some g =>
              rw [hg] at hcell
              unfold ptr at hcell
              have hG := HC.out.isGr k2 g hlt hg
              have l0 := hG.log 0 (by omega)
              have l1 := hG.log 1 (by omega)
              have l2 := hG.log 2 (by omega)
              have l3 := hG.log 3 (by omega)
              have l4 := hG.log 4 (by omega)
              have l5 := hG.log 5 (by omega)
              have l6 := hG.log 6 (by omega)
              have l7 := hG.log 7 (by omega)
              have l8 := hG.log 8 (by omega)
              have l9 := hG.log 9 (by omega)
              have l10 := hG.log 10 (by omega)
              have l11 := hG.log 11 (by omega)
              have l12 := hG.log 12 (by omega)
              have l13 := hG.log 13 (by omega)
              have l14 := hG.log 14 (by omega)
              have l15 := hG.log 15 (by omega)
              have HG : Hid (IsGrp w g (D.X g) (D.ch g) (D.tm g) (D.ta g) (D.tn g) (D.tc g)) := hG
              clear hG
              have HGk : Hid (D.G k2 = some g) := hg
              clear hg
              by_cases hz : Zero (D.X g) = true
              · have hq : ∀ w, (Op.equalIn 10000 35 (.agg #[.int .u8 (D.X g 0), .int .u8 (D.X g 1), .int .u8 (D.X g 2), .int .u8 (D.X g 3), .int .u8 (D.X g 4), .int .u8 (D.X g 5), .int .u8 (D.X g 6), .int .u8 (D.X g 7), .int .u8 (D.X g 8), .int .u8 (D.X g 9), .int .u8 (D.X g 10), .int .u8 (D.X g 11), .int .u8 (D.X g 12), .int .u8 (D.X g 13), .int .u8 (D.X g 14), .int .u8 (D.X g 15)]) (.agg #[.int .u8 0, .int .u8 0, .int .u8 0, .int .u8 0, .int .u8 0, .int .u8 0, .int .u8 0, .int .u8 0, .int .u8 0, .int .u8 0, .int .u8 0, .int .u8 0, .int .u8 0, .int .u8 0, .int .u8 0, .int .u8 0])).run Try.prog w = .ok true w := fun w => by rw [eqZero, hz]
                have hB2 := HB.out.skip (fun g' h hl => by rw [HGk.out] at h; cases h; rw [hl.1] at hz; cases hz)
                have hN2 := HN.out.skip (fun g' h hl => by rw [HGk.out] at h; cases h; rw [hl.1] at hz; cases hz)
                clear hz
                as_aux_lemma =>
                  go_wp2
                  go_roundw
                  case rel => exact ⟨bo, nn, k2 + 1, by omega, Hb0.out, Ho0.out, Hn0.out, by go_num, hB2, hN2, q2, rfl⟩
                  case measure => simp [intOf]; omega
              · have hz : Zero (D.X g) = false := by simpa using hz
                have hq : ∀ w, (Op.equalIn 10000 35 (.agg #[.int .u8 (D.X g 0), .int .u8 (D.X g 1), .int .u8 (D.X g 2), .int .u8 (D.X g 3), .int .u8 (D.X g 4), .int .u8 (D.X g 5), .int .u8 (D.X g 6), .int .u8 (D.X g 7), .int .u8 (D.X g 8), .int .u8 (D.X g 9), .int .u8 (D.X g 10), .int .u8 (D.X g 11), .int .u8 (D.X g 12), .int .u8 (D.X g 13), .int .u8 (D.X g 14), .int .u8 (D.X g 15)]) (.agg #[.int .u8 0, .int .u8 0, .int .u8 0, .int .u8 0, .int .u8 0, .int .u8 0, .int .u8 0, .int .u8 0, .int .u8 0, .int .u8 0, .int .u8 0, .int .u8 0, .int .u8 0, .int .u8 0, .int .u8 0, .int .u8 0])).run Try.prog w = .ok false w := fun w => by rw [eqZero, hz]
                have Hz : Hid (Zero (D.X g) = false) := hz
                clear hz
                as_aux_lemma =>
                  go_wp2_with fail
                  clear hq l0 l1 l2 l3 l4 l5 l6 l7 l8 l9 l10 l11 l12 l13 l14 l15 hcell
                  refine (older22' g t _ _ _ _ _ _ _ _ _ _ _ _ _ w ⟨q2, rfl⟩ HG.out HTt.out).mono ?_
                  rintro e wz ⟨rfl, q3, rfl⟩
                  by_cases hk3 : D.K g < D.K t
                  · have hB2 := HB.out.skip (fun g' h hl => by rw [HGk.out] at h; cases h; exact absurd hk3 hl.2)
                    have hN2 := HN.out.skip (fun g' h hl => by rw [HGk.out] at h; cases h; exact absurd hk3 hl.2)
                    have hd : decide (key (D.ch g) (D.ta g) < key (D.ch t) (D.ta t)) = true := by simpa [Data.K] using hk3
                    clear hk3
                    rw [hd]
                    go_wp2
                    go_roundw
                    case rel => exact ⟨bo, nn, k2 + 1, by omega, Hb0.out, Ho0.out, Hn0.out, by go_num, hB2, hN2, q3, rfl⟩
                    case measure => simp [intOf]; omega
                  · have hd : decide (key (D.ch g) (D.ta g) < key (D.ch t) (D.ta t)) = false := by simpa [Data.K] using hk3
                    have HL : Hid (Late D t g) := ⟨Hz.out, hk3⟩
                    clear hk3
                    rw [hd]
                    obtain ⟨Bs, rfl, hcs⟩ := HC.out.st k2 hlt
                    have ht1 := HG.out.trm
                    cases hs : D.S k2 with
                    | none =>
                      have hB2 := HB.out.skip (fun _ _ _ => hs)
                      rw [hs] at hcs
                      unfold ptr at hcs
                      clear hs
                      go_wp2
                      go_quiet (fail)
                      cases nn with
                      | none =>
                        have hN2 := HN.out.first HGk.out HL.out
                        have e3 := Hn0.out
                        unfold ptr at e3
                        subst e3
                        go_wp2
                        go_quiet (fail)
                        go_wp2
                        go_roundw
                        case rel => exact ⟨_, _, k2 + 1, by omega, by first | exact Hb0.out | rfl, by first | exact Ho0.out | rfl, by rfl, by go_num, hB2, hN2, _, rfl⟩
                        case measure => simp [intOf]; omega
                      | some u =>
                        have e3 := Hn0.out
                        unfold ptr at e3
                        subst e3
                        obtain ⟨ju, hju, hGu⟩ := HN.out.1
                        have ht2 := (HC.out.isGr ju u (by omega) hGu).trm
                        clear hGu hju
                        by_cases hm : D.tm u < D.tm g
                        · have hN2 := HN.out.take HGk.out HL.out hm
                          have hmd : decide (D.tm u < D.tm g) = true := by simpa using hm
                          clear hm
                          go_wp2
                          go_quiet (fail)
                          go_wp2
                          go_roundw
                          case rel => exact ⟨_, _, k2 + 1, by omega, by first | exact Hb0.out | rfl, by first | exact Ho0.out | rfl, by rfl, by go_num, hB2, hN2, _, rfl⟩
                          case measure => simp [intOf]; omega
                        · have hN2 := HN.out.keep HGk.out hm
                          have hmd : decide (D.tm u < D.tm g) = false := by simpa using hm
                          clear hm
                          go_wp2
                          go_quiet (fail)
                          go_wp2
                          go_roundw
                          case rel => exact ⟨_, _, k2 + 1, by omega, by first | exact Hb0.out | rfl, by first | exact Ho0.out | rfl, by rfl, by go_num, hB2, hN2, _, rfl⟩
                          case measure => simp [intOf]; omega
                    | some s =>
                      rw [hs] at hcs
                      unfold ptr at hcs
                      have hIs := HC.out.isSt k2 s hlt hs
                      have c2 := hIs.c2
                      have c6 := hIs.c6
                      clear hIs
                      cases bo with
                      | none =>
                        have hB2 := HB.out.first HGk.out HL.out hs
                        have e1 := Hb0.out
                        have e2 := Ho0.out
                        simp only [Option.map_none, ptr] at e1 e2
                        subst e1
                        subst e2
                        clear hs
                        go_wp2
                        go_quiet (fail)
                        cases nn with
                        | none =>
                          have hN2 := HN.out.first HGk.out HL.out
                          have e3 := Hn0.out
                          unfold ptr at e3
                          subst e3
                          go_wp2
                          go_quiet (fail)
                          go_wp2
                          go_roundw
                          case rel => exact ⟨_, _, k2 + 1, by omega, by first | exact Hb0.out | rfl, by first | exact Ho0.out | rfl, by rfl, by go_num, hB2, hN2, _, rfl⟩
                          case measure => simp [intOf]; omega
                        | some u =>
                          have e3 := Hn0.out
                          unfold ptr at e3
                          subst e3
                          obtain ⟨ju, hju, hGu⟩ := HN.out.1
                          have ht2 := (HC.out.isGr ju u (by omega) hGu).trm
                          clear hGu hju
                          by_cases hm : D.tm u < D.tm g
                          · have hN2 := HN.out.take HGk.out HL.out hm
                            have hmd : decide (D.tm u < D.tm g) = true := by simpa using hm
                            clear hm
                            go_wp2
                            go_quiet (fail)
                            go_wp2
                            go_roundw
                            case rel => exact ⟨_, _, k2 + 1, by omega, by first | exact Hb0.out | rfl, by first | exact Ho0.out | rfl, by rfl, by go_num, hB2, hN2, _, rfl⟩
                            case measure => simp [intOf]; omega
                          · have hN2 := HN.out.keep HGk.out hm
                            have hmd : decide (D.tm u < D.tm g) = false := by simpa using hm
                            clear hm
                            go_wp2
                            go_quiet (fail)
                            go_wp2
                            go_roundw
                            case rel => exact ⟨_, _, k2 + 1, by omega, by first | exact Hb0.out | rfl, by first | exact Ho0.out | rfl, by rfl, by go_num, hB2, hN2, _, rfl⟩
                            case measure => simp [intOf]; omega
                      | some bb =>
                        obtain ⟨b, o⟩ := bb
                        have e1 := Hb0.out
                        have e2 := Ho0.out
                        simp only [Option.map_some, ptr] at e1 e2
                        subst e1
                        subst e2
                        obtain ⟨jb, hjb, _, hSb⟩ := HB.out.1
                        have hIb := HC.out.isSt jb b (by omega) hSb
                        have b2 := hIb.c2
                        have b6 := hIb.c6
                        clear hIb hSb hjb
                        by_cases ha : D.ac b < D.ac s
                        · have hB2 := HB.out.take HGk.out HL.out hs (.inl ha)
                          have hd1 : decide (D.ac b < D.ac s) = true := by simpa using ha
                          clear hs ha
                          go_wp2
                          go_quiet (fail)
                          cases nn with
                          | none =>
                            have hN2 := HN.out.first HGk.out HL.out
                            have e3 := Hn0.out
                            unfold ptr at e3
                            subst e3
                            go_wp2
                            go_quiet (fail)
                            go_wp2
                            go_roundw
                            case rel => exact ⟨_, _, k2 + 1, by omega, by first | exact Hb0.out | rfl, by first | exact Ho0.out | rfl, by rfl, by go_num, hB2, hN2, _, rfl⟩
                            case measure => simp [intOf]; omega
                          | some u =>
                            have e3 := Hn0.out
                            unfold ptr at e3
                            subst e3
                            obtain ⟨ju, hju, hGu⟩ := HN.out.1
                            have ht2 := (HC.out.isGr ju u (by omega) hGu).trm
                            clear hGu hju
                            by_cases hm : D.tm u < D.tm g
                            · have hN2 := HN.out.take HGk.out HL.out hm
                              have hmd : decide (D.tm u < D.tm g) = true := by simpa using hm
                              clear hm
                              go_wp2
                              go_quiet (fail)
                              go_wp2
                              go_roundw
                              case rel => exact ⟨_, _, k2 + 1, by omega, by first | exact Hb0.out | rfl, by first | exact Ho0.out | rfl, by rfl, by go_num, hB2, hN2, _, rfl⟩
                              case measure => simp [intOf]; omega
                            · have hN2 := HN.out.keep HGk.out hm
                              have hmd : decide (D.tm u < D.tm g) = false := by simpa using hm
                              clear hm
                              go_wp2
                              go_quiet (fail)
                              go_wp2
                              go_roundw
                              case rel => exact ⟨_, _, k2 + 1, by omega, by first | exact Hb0.out | rfl, by first | exact Ho0.out | rfl, by rfl, by go_num, hB2, hN2, _, rfl⟩
                              case measure => simp [intOf]; omega
                        · have hd1 : decide (D.ac b < D.ac s) = false := by simpa using ha
                          by_cases he : D.ac s = D.ac b
                          · have hd2 : (D.ac s == D.ac b) = true := by simpa using he
                            by_cases hf : D.fl b < D.fl s
                            · have hB2 := HB.out.take HGk.out HL.out hs (.inr ⟨he, hf⟩)
                              have hd3 : decide (D.fl b < D.fl s) = true := by simpa using hf
                              clear hs ha he hf
                              go_wp2
                              go_quiet (fail)
                              cases nn with
                              | none =>
                                have hN2 := HN.out.first HGk.out HL.out
                                have e3 := Hn0.out
                                unfold ptr at e3
                                subst e3
                                go_wp2
                                go_quiet (fail)
                                go_wp2
                                go_roundw
                                case rel => exact ⟨_, _, k2 + 1, by omega, by first | exact Hb0.out | rfl, by first | exact Ho0.out | rfl, by rfl, by go_num, hB2, hN2, _, rfl⟩
                                case measure => simp [intOf]; omega
                              | some u =>
                                have e3 := Hn0.out
                                unfold ptr at e3
                                subst e3
                                obtain ⟨ju, hju, hGu⟩ := HN.out.1
                                have ht2 := (HC.out.isGr ju u (by omega) hGu).trm
                                clear hGu hju
                                by_cases hm : D.tm u < D.tm g
                                · have hN2 := HN.out.take HGk.out HL.out hm
                                  have hmd : decide (D.tm u < D.tm g) = true := by simpa using hm
                                  clear hm
                                  go_wp2
                                  go_quiet (fail)
                                  go_wp2
                                  go_roundw
                                  case rel => exact ⟨_, _, k2 + 1, by omega, by first | exact Hb0.out | rfl, by first | exact Ho0.out | rfl, by rfl, by go_num, hB2, hN2, _, rfl⟩
                                  case measure => simp [intOf]; omega
                                · have hN2 := HN.out.keep HGk.out hm
                                  have hmd : decide (D.tm u < D.tm g) = false := by simpa using hm
                                  clear hm
                                  go_wp2
                                  go_quiet (fail)
                                  go_wp2
                                  go_roundw
                                  case rel => exact ⟨_, _, k2 + 1, by omega, by first | exact Hb0.out | rfl, by first | exact Ho0.out | rfl, by rfl, by go_num, hB2, hN2, _, rfl⟩
                                  case measure => simp [intOf]; omega
                            · have hB2 := HB.out.keep hs (by omega)
                              have hd3 : decide (D.fl b < D.fl s) = false := by simpa using hf
                              clear hs ha he hf
                              go_wp2
                              go_quiet (fail)
                              cases nn with
                              | none =>
                                have hN2 := HN.out.first HGk.out HL.out
                                have e3 := Hn0.out
                                unfold ptr at e3
                                subst e3
                                go_wp2
                                go_quiet (fail)
                                go_wp2
                                go_roundw
                                case rel => exact ⟨_, _, k2 + 1, by omega, by first | exact Hb0.out | rfl, by first | exact Ho0.out | rfl, by rfl, by go_num, hB2, hN2, _, rfl⟩
                                case measure => simp [intOf]; omega
                              | some u =>
                                have e3 := Hn0.out
                                unfold ptr at e3
                                subst e3
                                obtain ⟨ju, hju, hGu⟩ := HN.out.1
                                have ht2 := (HC.out.isGr ju u (by omega) hGu).trm
                                clear hGu hju
                                by_cases hm : D.tm u < D.tm g
                                · have hN2 := HN.out.take HGk.out HL.out hm
                                  have hmd : decide (D.tm u < D.tm g) = true := by simpa using hm
                                  clear hm
                                  go_wp2
                                  go_quiet (fail)
                                  go_wp2
                                  go_roundw
                                  case rel => exact ⟨_, _, k2 + 1, by omega, by first | exact Hb0.out | rfl, by first | exact Ho0.out | rfl, by rfl, by go_num, hB2, hN2, _, rfl⟩
                                  case measure => simp [intOf]; omega
                                · have hN2 := HN.out.keep HGk.out hm
                                  have hmd : decide (D.tm u < D.tm g) = false := by simpa using hm
                                  clear hm
                                  go_wp2
                                  go_quiet (fail)
                                  go_wp2
                                  go_roundw
                                  case rel => exact ⟨_, _, k2 + 1, by omega, by first | exact Hb0.out | rfl, by first | exact Ho0.out | rfl, by rfl, by go_num, hB2, hN2, _, rfl⟩
                                  case measure => simp [intOf]; omega
                          · have hB2 := HB.out.keep hs (by omega)
                            have hd2 : (D.ac s == D.ac b) = false := by simpa using he
                            clear hs ha he
                            go_wp2
                            go_quiet (fail)
                            cases nn with
                            | none =>
                              have hN2 := HN.out.first HGk.out HL.out
                              have e3 := Hn0.out
                              unfold ptr at e3
                              subst e3
                              go_wp2
                              go_quiet (fail)
                              go_wp2
                              go_roundw
                              case rel => exact ⟨_, _, k2 + 1, by omega, by first | exact Hb0.out | rfl, by first | exact Ho0.out | rfl, by rfl, by go_num, hB2, hN2, _, rfl⟩
                              case measure => simp [intOf]; omega
                            | some u =>
                              have e3 := Hn0.out
                              unfold ptr at e3
                              subst e3
                              obtain ⟨ju, hju, hGu⟩ := HN.out.1
                              have ht2 := (HC.out.isGr ju u (by omega) hGu).trm
                              clear hGu hju
                              by_cases hm : D.tm u < D.tm g
                              · have hN2 := HN.out.take HGk.out HL.out hm
                                have hmd : decide (D.tm u < D.tm g) = true := by simpa using hm
                                clear hm
                                go_wp2
                                go_quiet (fail)
                                go_wp2
                                go_roundw
                                case rel => exact ⟨_, _, k2 + 1, by omega, by first | exact Hb0.out | rfl, by first | exact Ho0.out | rfl, by rfl, by go_num, hB2, hN2, _, rfl⟩
                                case measure => simp [intOf]; omega
                              · have hN2 := HN.out.keep HGk.out hm
                                have hmd : decide (D.tm u < D.tm g) = false := by simpa using hm
                                clear hm
                                go_wp2
                                go_quiet (fail)
                                go_wp2
                                go_roundw
                                case rel => exact ⟨_, _, k2 + 1, by omega, by first | exact Hb0.out | rfl, by first | exact Ho0.out | rfl, by rfl, by go_num, hB2, hN2, _, rfl⟩
                                case measure => simp [intOf]; omega
          · have hkk : k2 = k := by omega
            subst hkk
            clear hlt
            cases nn with
            | none => exact absurd HN.out (newest_ne HT.out)
            | some u =>
              have e3 := Hn0.out
              unfold ptr at e3
              subst e3
              cases bo with
              | none =>
                have e1 := Hb0.out
                have e2 := Ho0.out
                simp only [Option.map_none, ptr] at e1 e2
                subst e1
                subst e2
                have hch := chosen_new HT.out HB.out (by intro s o h; cases h) HN.out
                as_aux_lemma =>
                  go_wp2
                  go_ret
                  exact ⟨some u, rfl, hch, q2, rfl⟩
              | some bb =>
                obtain ⟨b, o⟩ := bb
                have e1 := Hb0.out
                have e2 := Ho0.out
                simp only [Option.map_some, ptr] at e1 e2
                subst e1
                subst e2
                obtain ⟨jb, hjb, _, hSb⟩ := HB.out.1
                have b2 := (HC.out.isSt jb b (by omega) hSb).c2
                clear hSb hjb
                by_cases ha : 0 < D.ac b
                · have hch := chosen_of HT.out HB.out ha
                  have hd1 : decide (0 < D.ac b) = true := by simpa using ha
                  clear ha
                  as_aux_lemma =>
                    go_wp2
                    go_ret
                    exact ⟨some o, rfl, hch, q2, rfl⟩
                · have hch := chosen_new HT.out HB.out (by intro s o h; cases h; omega) HN.out
                  have hd1 : decide (0 < D.ac b) = false := by simpa using ha
                  clear ha
                  as_aux_lemma =>
                    go_wp2
                    go_ret
                    exact ⟨some u, rfl, hch, q2, rfl⟩

end Go.Proofs.Qxb6600165a.Grp
