import Derived.Test.Qxb6600165aGrpF
import Derived.Laws.StructEq
import Derived.Laws.Tables
namespace Go.Proofs.Qxb6600165a.Grp
open Go.RowKit

theorem ite_step {w : World} {R : Result Bool} {a : Int} {b : Bool} (h : R = .ok b w) : (if a = 0 then R else .ok false w) = .ok (a == 0 && b) w := by
  subst h
  by_cases h : a = 0 <;> simp [h]

set_option maxRecDepth 100000 in
set_option maxHeartbeats 4000000 in
theorem eq35 (x0 x1 x2 x3 x4 x5 x6 x7 x8 x9 x10 x11 x12 x13 x14 x15 : Int) (w : World) : ∃ r : Bool, (r = ((x0 == 0) && ((x1 == 0) && ((x2 == 0) && ((x3 == 0) && ((x4 == 0) && ((x5 == 0) && ((x6 == 0) && ((x7 == 0) && ((x8 == 0) && ((x9 == 0) && ((x10 == 0) && ((x11 == 0) && ((x12 == 0) && ((x13 == 0) && ((x14 == 0) && ((x15 == 0) && true))))))))))))))))) ∧ (Op.equalIn 10000 35 (.agg #[.int .u8 x0, .int .u8 x1, .int .u8 x2, .int .u8 x3, .int .u8 x4, .int .u8 x5, .int .u8 x6, .int .u8 x7, .int .u8 x8, .int .u8 x9, .int .u8 x10, .int .u8 x11, .int .u8 x12, .int .u8 x13, .int .u8 x14, .int .u8 x15]) (.agg #[.int .u8 0, .int .u8 0, .int .u8 0, .int .u8 0, .int .u8 0, .int .u8 0, .int .u8 0, .int .u8 0, .int .u8 0, .int .u8 0, .int .u8 0, .int .u8 0, .int .u8 0, .int .u8 0, .int .u8 0, .int .u8 0])).run Try.prog w = .ok r w := by
  have u5 := Try.underlying5
  have a5 := Try.isAgg5
  have z5 := Try.sizeOf5
  refine ⟨_, rfl, ?_⟩
  rw [show (10000 : Nat) = 9999 + 1 from rfl, Op.equalIn]
  simp only [Sem.run_bind, run_underlying Try.underlying35, Result.andThen_ok]
  simp only [Std.Legacy.Range.forIn_eq_forIn_range', Std.Legacy.Range.size, Nat.sub_zero, Nat.add_sub_cancel, Nat.div_one, List.range'_succ, List.range'_zero, List.forIn_cons, List.forIn_nil]
  go_simp
  exact ite_step (ite_step (ite_step (ite_step (ite_step (ite_step (ite_step (ite_step (ite_step (ite_step (ite_step (ite_step (ite_step (ite_step (ite_step (by by_cases h : x15 = 0 <;> simp [h])))))))))))))))
/-- No identity. -/
def Zero (X : Nat → Int) : Bool := (X 0 == 0) && ((X 1 == 0) && ((X 2 == 0) && ((X 3 == 0) && ((X 4 == 0) && ((X 5 == 0) && ((X 6 == 0) && ((X 7 == 0) && ((X 8 == 0) && ((X 9 == 0) && ((X 10 == 0) && ((X 11 == 0) && ((X 12 == 0) && ((X 13 == 0) && ((X 14 == 0) && ((X 15 == 0) && true)))))))))))))))
theorem eqZero (X : Nat → Int) (w : World) : (Op.equalIn 10000 35 (.agg #[.int .u8 (X 0), .int .u8 (X 1), .int .u8 (X 2), .int .u8 (X 3), .int .u8 (X 4), .int .u8 (X 5), .int .u8 (X 6), .int .u8 (X 7), .int .u8 (X 8), .int .u8 (X 9), .int .u8 (X 10), .int .u8 (X 11), .int .u8 (X 12), .int .u8 (X 13), .int .u8 (X 14), .int .u8 (X 15)]) (.agg #[.int .u8 0, .int .u8 0, .int .u8 0, .int .u8 0, .int .u8 0, .int .u8 0, .int .u8 0, .int .u8 0, .int .u8 0, .int .u8 0, .int .u8 0, .int .u8 0, .int .u8 0, .int .u8 0, .int .u8 0, .int .u8 0])).run Try.prog w = .ok (Zero X) w := by
  obtain ⟨r, hr, h⟩ := eq35 (X 0) (X 1) (X 2) (X 3) (X 4) (X 5) (X 6) (X 7) (X 8) (X 9) (X 10) (X 11) (X 12) (X 13) (X 14) (X 15) w
  rw [h, hr]
  rfl

set_option maxRecDepth 100000 in
set_option maxHeartbeats 4000000 in
theorem rec12 (g : Nat) (X : Nat → Int) (w : World) (hX : ∀ i, i < 16 → w.cell? ⟨g, i, none⟩ = some (.int .u8 (X i))) :
    Calls Try.prog 12 #[.pointer (some ⟨g, 0, none⟩)] w fun e w' => e = .returned (.bool (!Zero X)) ∧ w = w' := by
  have hq := eqZero X
  have h0 := hX 0 (by omega)
  have h1 := hX 1 (by omega)
  have h2 := hX 2 (by omega)
  have h3 := hX 3 (by omega)
  have h4 := hX 4 (by omega)
  have h5 := hX 5 (by omega)
  have h6 := hX 6 (by omega)
  have h7 := hX 7 (by omega)
  have h8 := hX 8 (by omega)
  have h9 := hX 9 (by omega)
  have h10 := hX 10 (by omega)
  have h11 := hX 11 (by omega)
  have h12 := hX 12 (by omega)
  have h13 := hX 13 (by omega)
  have h14 := hX 14 (by omega)
  have h15 := hX 15 (by omega)
  clear hX
  go_enter Try.func12, Try.ntmps12
  go_wp2
  go_ret
  exact ⟨rfl, rfl⟩

theorem rec12n (w : World) : Calls Try.prog 12 #[.pointer none] w fun e w' => e = .returned (.bool false) ∧ w = w' := by
  go_enter Try.func12, Try.ntmps12
  go_wp2
  go_ret
  exact ⟨rfl, rfl⟩

end Go.Proofs.Qxb6600165a.Grp
