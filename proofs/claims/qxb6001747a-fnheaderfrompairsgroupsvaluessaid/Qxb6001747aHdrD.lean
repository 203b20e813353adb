import Derived.Test.Qxb6001747aHdrC
import Derived.Deep.RegionHeld3
import Derived.Deep.QuietTactic
import Derived.BigQuiet
import Derived.Laws.BytesArg
import Derived.WalkSpells
namespace Go.Proofs.Qxb6001747a.Hdr
open Go.RowKit Go.Maps

theorem info9 : (Try.prog.info? 9).map (fun i => (i.zero, i.size, i.bytes)) = some (some (.string ByteArray.empty), 1, 16) := by kernel_rfl

theorem makeMap33 (n : Int) (w : World) : (Instr.makeMap 33 (some (.int .i64 n))).run Try.prog w = .ok (.map (some w.heap.size)) (w.alloc (.map #[] 0)) := by
  have h := run_underlying (w := w) Try.underlying33
  simp [Instr.makeMap, h, asInt, newObj, go_sem]
  rfl

/-- 'string(b)' of such a slice of bytes. -/
theorem conv {w : World} {a : Option Addr} {n c : Nat} {zs : List Int} (h : Bytes w a n zs) : (convert 28 9 (.slice a n c)).run Try.prog w = .ok (.string (strOfNums zs)) w := by
  obtain ⟨hz, _, h⟩ := h
  cases a with
  | none =>
    rcases h with h | ⟨b, off, h, _⟩
    · subst h
      obtain rfl : zs = [] := List.length_eq_zero_iff.1 hz
      exact run_convert_bytes_nil w 28 5 Try.underlying28 Try.underlying5 0 c 9 Try.underlying9
    · cases h
  | some x =>
    rcases h with h | ⟨b, off, h, _, hc⟩
    · subst h
      obtain rfl : zs = [] := List.length_eq_zero_iff.1 hz
      rw [run_convert_bytes_string w 28 9 5 _ 0 c Try.underlying28 Try.underlying5 Try.underlying9, run_bytesToString w x 0 c [] (by simp [loadCells, loadCellsFrom])]
      rfl
    · cases h
      exact run_convert_bytes_arg w 28 5 Try.underlying28 Try.underlying5 b off n c zs hz hc 9 Try.underlying9

theorem Bytes.grown {w w' : World} {a : Option Addr} {n : Nat} {zs : List Int} (h : Bytes w a n zs) (hb : w.grownBy w' none) : Bytes w' a n zs :=
  h.below ((Below.refl _ _).grown hb (Nat.le_refl _) (by simp))

/-- What the call leaves. -/
def MadeHdr (nm vl : Nat → ByteArray) (K : Nat) (w : World) (e : Ending) (w' : World) : Prop :=
  e = .returned (.tuple #[.map (some w.heap.size), .nilIface]) ∧ (∃ D V, Hdr nm vl w.heap.size K w' D V) ∧ Below w.heap.size w w'
def Refused (w : World) (e : Ending) (w' : World) : Prop :=
  (∃ t v, e = .returned (.tuple #[.map none, .iface t v])) ∧ Below w.heap.size w w'

set_option maxHeartbeats 1000000 in
theorem hdr_odd (a : Option Addr) (len cap : Nat) (w : World) (hl : len ≤ 65536) (ho : len % 2 = 1) :
    Calls Try.prog 21 #[.slice a len cap] w fun e w' => Refused w e w' := by
  have h1 : ((len : Int) % 2 != 0) = true := by rw [bne_iff_ne]; omega
  go_enter Try.func21, Try.ntmps21
  go_wp2
  go_ret2
  exact ⟨⟨_, _, rfl⟩, (Below.refl _ _).alloc (Nat.le_refl _) _⟩

set_option maxHeartbeats 2000000 in
theorem hdr_even (a : Option Addr) (K cap : Nat) (A : Nat → Option Addr) (L C : Nat → Nat) (Z : Nat → List Int) (w : World) (hl : Few (2 * K)) (hL : Short (2 * K) L) (hp : Pairs w a (2 * K) A L C Z) :
    Calls Try.prog 21 #[.slice a (2 * K) cap] w fun e w' => MadeHdr (fun j => strOfNums (Z (2 * j))) (fun j => strOfNums (Z (2 * j + 1))) K w e w' := by
  obtain ⟨i9, hi9, hz90, hz91, hz92⟩ := info_parts info9
  have hmm := makeMap33
  unfold Few at hl
  have h1 : (((2 * K : Nat) : Int) % 2 != 0) = false := by simp
  generalize hnm : (fun j => strOfNums (Z (2 * j))) = nm
  generalize hvl : (fun j => strOfNums (Z (2 * j + 1))) = vl
  have Hnm := fun j => congrFun hnm j
  have Hvl := fun j => congrFun hvl j
  have HN : Hid (∀ j, strOfNums (Z (2 * j)) = nm j) := Hnm
  have HV : Hid (∀ j, strOfNums (Z (2 * j + 1)) = vl j) := Hvl
  clear hnm hvl Hnm Hvl
  generalize hlen : 2 * K = len at *
  have HL : Hid (2 * K = len) := hlen
  have hle : len ≤ 43690 := by omega
  have hKle : K ≤ 21845 := by omega
  clear hlen hl
  go_enter Try.func21, Try.ntmps21
  go_wp2
  go_loopw [5] (fun i wr => ∃ k j : Nat, k ≤ K ∧ Hid (j = 2 * k) ∧ i = .int .i64 j ∧ (∃ D V, Hdr nm vl w.heap.size k wr D V) ∧ Below w.heap.size w wr) (fun i _ => len - (intOf i).toNat)
  case atStart => exact ⟨0, 0, Nat.zero_le _, rfl, rfl, ⟨_, _, hdr_made nm vl w⟩, (Below.refl _ _).alloc (Nat.le_refl _) _⟩
  case round =>
    obtain ⟨k, j, hk, HJ, rfl, ⟨D, V, hd⟩, hbel⟩ := hrel
    have hj := HJ.out
    have hL0 := HL.out
    by_cases hlt : k < K
    · have hj1 : j + 1 < len := by omega
      rcases hp with h0 | ⟨b, off, hx, hb, hc⟩
      · omega
      subst hx
      have hBw : w.heap.size ≤ wr.heap.size := hbel.size
      have hi0 : (0 : Int) ≤ (j : Int) + 1 := by omega
      have hi1 : (j : Int) + 1 < (len : Int) := by omega
      have hwr : IntKind.i64.wrap ((j : Int) + 1) = (j : Int) + 1 := IntWalk.i64_in _ (by omega)
      obtain ⟨hc0, hy0⟩ := hc j (by omega)
      obtain ⟨hc1, hy1⟩ := hc (j + 1) hj1
      have hs0 : (nm k).size ≤ 1048576 := by
        rw [← HN.out k, ← hj, strOfNums_size, hy0.1]
        exact hL j (by omega)
      have hb0 : Bytes wr (A j) (L j) (Z j) := hy0.below hbel
      have hcv0 : (convert 28 9 (.slice (A j) (L j) (C j))).run Try.prog wr = .ok (.string (nm k)) wr := by rw [conv hb0, ← HN.out k, ← hj]
      have hcell0 := (hbel.cell (p := ⟨b, off + j, none⟩) hb).trans hc0
      have hcv1 : ∀ W, Below w.heap.size w W → W.cell? ⟨b, off + (j + 1), none⟩ = some (.slice (A (j + 1)) (L (j + 1)) (C (j + 1))) ∧ (convert 28 9 (.slice (A (j + 1)) (L (j + 1)) (C (j + 1)))).run Try.prog W = .ok (.string (vl k)) W := fun W hW =>
        ⟨(hW.cell (p := ⟨b, off + (j + 1), none⟩) hb).trans hc1, by rw [conv (hy1.below hW), ← HV.out k, ← hj]⟩
      have hlk1 : (Instr.lookup 33 (.map (some w.heap.size)) (.string (nm k)) false).run Try.prog wr.drew = .ok (V (nm k)) wr.drew := Hdr.look (w := wr.drew) (hd.kept ⟨rfl, rfl, rfl, Nat.le_refl _, fun _ _ _ => rfl⟩) (nm k) (by unfold maxLen; omega)
      have hlk2 : (Instr.lookup 33 (.map (some w.heap.size)) (.string (nm k)) false).run Try.prog (wr.alloc (.cells #[.string (vl k)] 9)).drew = .ok (V (nm k)) (wr.alloc (.cells #[.string (vl k)] 9)).drew := Hdr.look (w := (wr.alloc (.cells #[.string (vl k)] 9)).drew) (hd.kept (let h := World.grownBy_alloc wr (.cells #[.string (vl k)] 9) none; ⟨h.os, h.tape, h.output, h.size, h.block⟩)) (nm k) (by unfold maxLen; omega)
      have hGl := G_len nm vl (nm k) k
      have hrow := hd.row (nm k)
      generalize hv : V (nm k) = v at *
      generalize hsl : (Value.slice (A j) (L j) (C j)) = sl0 at *
      generalize hsl1 : (Value.slice (A (j + 1)) (L (j + 1)) (C (j + 1))) = sl1 at *
      clear hj hL0 hc hL hy0 hy1 hc0 hc1 hb0 hsl hsl1
      have hga : wr.grownBy (wr.alloc (.cells #[.string (vl k)] 9)).drew none := let h := World.grownBy_alloc wr (.cells #[.string (vl k)] 9) none; ⟨h.os, h.tape, h.output, h.size, h.block⟩
      have hst : Hid (∀ gg cap' w1, w1.ownsRow (w.heap.size + 1) 9 1 (.slice (some ⟨gg, 0, none⟩) ((G nm vl k (nm k)).length + 1) cap') ((G nm vl k (nm k)).length + 1) ((G nm vl k (nm k)).map Value.string ++ [.string (vl k)]) →
          (wr.alloc (.cells #[.string (vl k)] 9)).drew.grownBy w1 v.ownBlock → (v.ownBlock = some gg ∨ gg = wr.heap.size + 1) →
          ∃ w2, (Instr.mapUpdate 33 (.map (some w.heap.size)) (.string (nm k)) (.slice (some ⟨gg, 0, none⟩) ((G nm vl k (nm k)).length + 1) cap')).run Try.prog w1 = .ok () w2 ∧ (∃ D' V', Hdr nm vl w.heap.size (k + 1) w2 D' V') ∧ w1.grownBy w2 (some w.heap.size)) := by
        intro gg cap' w1 h1 h2 h3
        subst hv
        obtain ⟨w2, D', V', r1, r2, r3⟩ := hd.store (v' := .slice (some ⟨gg, 0, none⟩) ((G nm vl k (nm k)).length + 1) cap') (by unfold maxLen; omega) (by unfold maxLen; omega) (w1 := w1)
          (World.grownBy.trans (b := (wr.alloc (.cells #[.string (vl k)] 9)).drew) (let h := World.grownBy_alloc wr (.cells #[.string (vl k)] 9) (V (nm k)).ownBlock; ⟨h.os, h.tape, h.output, h.size, h.block⟩) h2) h1 (by
            rcases h3 with h3 | h3
            · exact .inl h3.symm
            · exact .inr ⟨gg, rfl, by omega⟩)
        exact ⟨w2, r1, ⟨D', V', r2⟩, r3⟩
      have hrowA := (hrow.alloc (.cells #[.string (vl k)] 9)).drew
      have hvb : some b ≠ v.ownBlock := fun e => by
        have := (hrow.lt b e.symm).1
        omega
      have Hkeep : Hid (∀ W, Below w.heap.size w W → W.cell? ⟨b, off + (j + 1), none⟩ = some sl1 ∧ (convert 28 9 sl1).run Try.prog W = .ok (.string (vl k)) W) := hcv1
      clear hd hv hcv1
      go_wp2_with fail
      go_region_held3 (fun w' => w'.cell? ⟨b, off + (j + 1), none⟩ = some sl1 ∧ (convert 28 9 sl1).run Try.prog w' = .ok (.string (vl k)) w')
        (first | exact Hkeep.out _ hbel.drew | exact Hkeep.out _ (hbel.alloc hBw _).drew | exact Hkeep.out _ hbel1 | exact Hkeep.out _ hbel2)
        ((refine step_append_lies _ (by rfl) _ _ _ (by rfl) (w.heap.size + 1) 9 i9 _ 1 16 Try.underlying36 hi9 hz90 hz91 hz92 rfl (by omega) v _ _ (by rfl) hrowA ⟨wr.heap.size, 0, none⟩ 1 1 [.string (vl k)] (by rfl) (by rfl) (World.news_of_block (cs := #[.string (vl k)]) (t := 9) (fr := (0, 0)) (heap_alloc_new wr _)) (by simp [Value.oneCell']) (by omega) (by unfold maxLen; omega) (by omega) (by simp; omega) (wr.heap.size + 1) (by simp) ?_; intro gg cap' w1 hown1 hgrow hat hlt1; obtain ⟨w2, hup, hd2, hgrow2⟩ := hst.out gg cap' w1 hown1 hgrow hat; have hbel1 : Below w.heap.size w w1 := Below.grown (w := (wr.alloc (.cells #[.string (vl k)] 9)).drew) (hbel.alloc hBw _).drew hgrow (by simp; omega) (fun i hi => by have := (hrow.lt i hi).1; omega); have hbel2 : Below w.heap.size w w2 := hbel1.grown hgrow2 hbel1.size (fun i hi => by cases hi; exact Nat.le_refl _)))
      all_goals
        go_wp2
        go_roundw
        case rel => exact ⟨k + 1, j + 2, by omega, by have := HJ.out; show j + 2 = 2 * (k + 1); omega, by go_num, hd2, hbel2⟩
        case measure => simp [intOf]; omega
    · have hkK : k = K := by omega
      subst hkK
      clear hj hL0
      have hjl : ¬ j < len := by have := HJ.out; have := HL.out; omega
      go_wp2
      go_ret2
      exact ⟨rfl, ⟨D, V, hd⟩, hbel⟩

end Go.Proofs.Qxb6001747a.Hdr
