import Derived.Test.Qxb6001747aHdrD
import Derived.Deep.Slices
namespace Go.Proofs.Qxb6001747a.Hdr
open Go.RowKit Go.Maps

/-- What ZZheaderFromPairs leaves of an even list. -/
def MadeZ (nm vl : Nat → ByteArray) (K : Nat) (w : World) (e : Ending) (w' : World) : Prop :=
  e = .returned (.tuple #[.map (some w.heap.size), .bool true]) ∧ (∃ D V, Hdr nm vl w.heap.size K w' D V) ∧ Below w.heap.size w w'
def RefusedZ (w : World) (e : Ending) (w' : World) : Prop :=
  e = .returned (.tuple #[.map none, .bool false]) ∧ Below w.heap.size w w'

theorem grown_drewN (w : World) (n : Nat) (row : Option Nat) : w.grownBy (w.drewN n) row := ⟨rfl, rfl, rfl, Nat.le_refl _, fun _ _ _ => rfl⟩
theorem below_drewN' {B : Nat} {a w : World} (h : Below B a w) (n : Nat) : Below B a (w.drewN n) := ⟨h.os, h.tape, h.output, h.size, h.block⟩

set_option maxHeartbeats 1000000 in
theorem hdrZ_odd (a : Option Addr) (len cap : Nat) (w : World) (hl : len ≤ 65536) (ho : len % 2 = 1) :
    Calls Try.prog 17 #[.slice a len cap] w fun e w' => RefusedZ w e w' := by
  go_enter Try.func17, Try.ntmps17
  go_wp2_with (go_at_call 21; refine (hdr_odd a len cap _ hl ho).mono ?_; rintro e w' ⟨⟨t, v, rfl⟩, hb⟩)
  go_quiet (fail)
  go_wp2
  go_ret2
  exact ⟨rfl, below_drewN' hb _⟩

set_option maxHeartbeats 1000000 in
theorem hdrZ_even (a : Option Addr) (K cap : Nat) (A : Nat → Option Addr) (L C : Nat → Nat) (Z : Nat → List Int) (w : World) (hl : Few (2 * K)) (hL : Short (2 * K) L) (hp : Pairs w a (2 * K) A L C Z) :
    Calls Try.prog 17 #[.slice a (2 * K) cap] w fun e w' => MadeZ (fun j => strOfNums (Z (2 * j))) (fun j => strOfNums (Z (2 * j + 1))) K w e w' := by
  go_enter Try.func17, Try.ntmps17
  go_wp2_with (go_at_call 21; refine (hdr_even a K cap A L C Z _ hl hL hp).mono ?_; rintro e w' ⟨rfl, hd, hb⟩)
  go_quiet (fail)
  go_wp2
  go_ret2
  obtain ⟨D, V, hd⟩ := hd
  exact ⟨rfl, ⟨D, V, hd.kept (grown_drewN _ _ _)⟩, below_drewN' hb _⟩

/-- Out of the copy: its slices, named. -/
theorem Cloned.pairs {B len : Nat} {w' : World} {vs : List Value} (ho : w'.ownsRow B 28 1 (.slice (some ⟨B, 0, none⟩) len len) len vs) (hv : ∀ v ∈ vs, Elem w' B v) :
    ∃ A L C Z, Pairs w' (some ⟨B, 0, none⟩) len A L C Z ∧ Short len L := by
  have hx : ∀ j, j < len → ∃ x : Option Addr × Nat × Nat × List Int, vs[j]? = some (.slice x.1 x.2.1 x.2.2.1) ∧ x.2.1 ≤ 1048576 ∧ Bytes w' x.1 x.2.1 x.2.2.2 := fun j hj => by
    have hjl : j < vs.length := by rw [ho.1]; omega
    obtain ⟨a, n, c, zs, h1, h2, h3, _⟩ := hv _ (List.getElem_mem hjl)
    exact ⟨(a, n, c, zs), by rw [List.getElem?_eq_getElem hjl, h1], h2, h3⟩
  obtain ⟨f, hf⟩ := Deep.choose_lt hx
  refine ⟨fun j => (f j).1, fun j => (f j).2.1, fun j => (f j).2.2.1, fun j => (f j).2.2.2, .inr ⟨B, 0, rfl, (ho.lt B rfl).2, fun j hj => ⟨?_, (hf j hj).2.2⟩⟩, fun j hj => (hf j hj).2.1⟩
  rw [Nat.zero_add, ho.cellAt j (by omega)]
  exact (hf j hj).1

end Go.Proofs.Qxb6001747a.Hdr
