import Derived.Test.Qxb6001747aNumB
namespace Go.Proofs.Qxb6001747a.Num
open Go.RowKit

theorem ret_str {s t : ByteArray} (h : s = t) : Ending.returned (.string s) = .returned (.string t) := by rw [h]

set_option maxHeartbeats 400000 in
theorem trim22 (l : List UInt8) (w : World) (hl : l.length ≤ 2000000) :
    Calls Try.prog 22 #[.string (B l), .string ⟨#[45]⟩] w fun e w' => e = .returned (.string (B (tm l))) ∧ w' = w := by
  cases l with
  | nil =>
    have hsz := B_size []
    generalize hs : B [] = s at *
    clear hs
    simp at hsz
    go_enter Try.func22, Try.ntmps22
    go_wp2
    go_ret
    exact ⟨ret_str rfl, rfl⟩
  | cons c q =>
    have hsz := B_size (c :: q)
    have h1 : ((B (c :: q)).extract 0 1).toList = [c] := by rw [B_take, B_toList]; rfl
    have h2 : (B (c :: q)).extract 1 (B (c :: q)).size = B q := by rw [B_drop]; rfl
    generalize hs : B (c :: q) = s at *
    have HS : Hid (B (c :: q) = s) := hs
    have H2 : Hid (s.extract 1 s.size = B q) := h2
    clear hs h2
    simp at hsz hl
    have hs1 : 1 ≤ s.size := by omega
    have hs2 : s.size ≤ 2000000 := by omega
    clear hsz
    by_cases hc : c = 45
    · subst hc
      go_enter Try.func22, Try.ntmps22
      go_wp2
      go_ret
      exact ⟨ret_str (by rw [H2.out]; rfl), rfl⟩
    · have hb : ((c == 45) : Bool) = false := by simp [hc]
      go_enter Try.func22, Try.ntmps22
      go_wp2
      go_ret
      exact ⟨ret_str (by rw [← HS.out]; simp [tm, hc]), rfl⟩

/-- A point at the head. -/
def dot : List UInt8 → Bool
  | [] => false
  | c :: _ => c == 46

set_option maxHeartbeats 400000 in
theorem pre25 (l : List UInt8) (w : World) (hl : l.length ≤ 2000000) :
    Calls Try.prog 25 #[.string (B l), .string ⟨#[46]⟩] w fun e w' => e = .returned (.bool (dot l)) ∧ w' = w := by
  cases l with
  | nil =>
    have hsz := B_size []
    generalize hs : B [] = s at *
    clear hs
    simp at hsz
    go_enter Try.func25, Try.ntmps25
    go_wp2
    go_ret
    exact ⟨rfl, rfl⟩
  | cons c q =>
    have hsz := B_size (c :: q)
    have h1 : ((B (c :: q)).extract 0 1).toList = [c] := by rw [B_take, B_toList]; rfl
    generalize hs : B (c :: q) = s at *
    clear hs
    simp at hsz hl
    have hs1 : 1 ≤ s.size := by omega
    have hs2 : s.size ≤ 2000000 := by omega
    clear hsz
    by_cases hc : c = 46
    · subst hc
      go_enter Try.func25, Try.ntmps25
      go_wp2
      go_ret
      exact ⟨rfl, rfl⟩
    · have hb : ((c == 46) : Bool) = false := by simp [hc]
      go_enter Try.func25, Try.ntmps25
      go_wp2
      go_ret
      exact ⟨by simp [dot, hc], rfl⟩

/-- What skipNumber leaves. -/
def Skips (l : List UInt8) (w : World) (e : Ending) (w' : World) : Prop :=
  Below w.heap.size w w' ∧ match sk l with
    | none => ∃ t v, e = .returned (.tuple #[.string ByteArray.empty, .bool false, .iface t v])
    | some (r, d) => e = .returned (.tuple #[.string (B r), .bool d, .nilIface])

theorem Skips.no {l : List UInt8} {w w' : World} {t : TypeId} {v : Value} (h : sk l = none) (hb : Below w.heap.size w w') : Skips l w (.returned (.tuple #[.string ByteArray.empty, .bool false, .iface t v])) w' := by
  refine ⟨hb, ?_⟩
  rw [h]
  exact ⟨t, v, rfl⟩
theorem Skips.yes {l r : List UInt8} {d : Bool} {w w' : World} {s : ByteArray} (h : sk l = some (r, d)) (hs : s = B r) (hb : Below w.heap.size w w') : Skips l w (.returned (.tuple #[.string s, .bool d, .nilIface])) w' := by
  refine ⟨hb, ?_⟩
  rw [h, hs]

theorem tm_len (l : List UInt8) : (tm l).length ≤ l.length := by
  cases l with
  | nil => exact Nat.le_refl _
  | cons c q => simp only [tm]; split <;> simp

set_option maxHeartbeats 2000000 in
theorem skip20 (l : List UInt8) (w : World) (hl : l.length ≤ 2000000) :
    Calls Try.prog 20 #[.string (B l)] w fun e w' => Skips l w e w' := by
  have ht := tm_len l
  have HSK : Hid (sk l = if nd (tm l) = 0 then none else sk2 (nd (tm l)) ((tm l).drop (nd (tm l)))) := rfl
  go_enter Try.func20, Try.ntmps20
  go_wp2_with fail
  refine (trim22 l w hl).mono ?_
  rintro e w' ⟨rfl, rfl⟩
  go_wp2_with fail
  generalize tm l = r at *
  refine (count23 r _ (by omega)).mono ?_
  rintro e w' ⟨rfl, rfl⟩
  have hn := nd_le r
  by_cases h0 : nd r = 0
  · have h0' : ((nd r : Int) == 0) = true := by simp [h0]
    have HN : Hid (sk l = none) := by show sk l = none; rw [HSK.out, if_pos h0]
    clear h0 HSK
    go_wp2
    go_ret3
    exact Skips.no HN.out ((Below.refl _ _).alloc (Nat.le_refl _) _)
  · have h0' : ((nd r : Int) == 0) = false := by simp; omega
    have HN : Hid (sk l = sk2 (nd r) (r.drop (nd r))) := by show sk l = _; rw [HSK.out, if_neg h0]
    clear HSK
    go_wp2_with fail
    simp only [B_drop]
    have hq : (r.drop (nd r)).length ≤ r.length := by simp
    generalize r.drop (nd r) = q at *
    refine (pre25 q _ (by omega)).mono ?_
    rintro e w2 ⟨rfl, rfl⟩
    generalize nd r = n at *
    cases q with
    | nil =>
      by_cases h15 : 15 < n
      · have HF : Hid (sk l = none) := by show sk l = none; rw [HN.out]; simp [sk2, h15]
        clear HN
        go_wp2
        go_ret3
        exact Skips.no HF.out ((Below.refl _ _).alloc (Nat.le_refl _) _)
      · have HF : Hid (sk l = some ([], false)) := by show sk l = _; rw [HN.out]; simp [sk2, h15]
        clear HN
        go_wp2
        go_ret3
        exact Skips.yes HF.out rfl (Below.refl _ _)
    | cons c q =>
      by_cases hc : c = 46
      · subst hc
        have HS2 : Hid (sk l = if 12 < n ∨ nd q = 0 ∨ 3 < nd q then none else some (q.drop (nd q), true)) := by show sk l = _; rw [HN.out, sk2, if_pos rfl]
        clear HN
        rw [show dot (46 :: q) = true from rfl]
        have hsz1 : 1 ≤ (B (46 :: q)).size := by rw [B_size]; simp
        have hqn := nd_le q
        simp only [List.length_cons] at hq
        go_wp2_with fail
        simp only [B_drop, List.drop_succ_cons, List.drop_zero]
        refine (count23 q _ (by omega)).mono ?_
        rintro e w3 ⟨rfl, rfl⟩
        by_cases h12 : 12 < n
        · have HF : Hid (sk l = none) := by show sk l = none; rw [HS2.out]; simp [h12]
          clear HS2
          go_wp2
          go_ret3
          exact Skips.no HF.out ((Below.refl _ _).alloc (Nat.le_refl _) _)
        · by_cases hf0 : nd q = 0
          · have HF : Hid (sk l = none) := by show sk l = none; rw [HS2.out]; simp [hf0]
            have hf0' : ((nd q : Int) == 0) = true := by simp [hf0]
            clear HS2 hf0
            go_wp2
            go_ret3
            exact Skips.no HF.out ((Below.refl _ _).alloc (Nat.le_refl _) _)
          · have hf0' : ((nd q : Int) == 0) = false := by simp; omega
            by_cases hf3 : 3 < nd q
            · have HF : Hid (sk l = none) := by show sk l = none; rw [HS2.out]; simp [hf3]
              clear HS2
              go_wp2
              go_ret3
              exact Skips.no HF.out ((Below.refl _ _).alloc (Nat.le_refl _) _)
            · have HF : Hid (sk l = some (q.drop (nd q), true)) := by show sk l = _; rw [HS2.out, if_neg (by omega)]
              have hsz2 : 1 + nd q ≤ (B (46 :: q)).size := by rw [B_size]; simp; omega
              clear HS2
              go_wp2
              go_ret3
              exact Skips.yes HF.out (by rw [B_drop, Nat.add_comm]; rfl) (Below.refl _ _)
      · rw [show dot (c :: q) = false by simp [dot, hc]]
        by_cases h15 : 15 < n
        · have HF : Hid (sk l = none) := by show sk l = none; rw [HN.out]; simp [sk2, h15, hc]
          clear HN
          go_wp2
          go_ret3
          exact Skips.no HF.out ((Below.refl _ _).alloc (Nat.le_refl _) _)
        · have HF : Hid (sk l = some (c :: q, false)) := by show sk l = _; rw [HN.out]; simp [sk2, h15, hc]
          clear HN
          go_wp2
          go_ret3
          exact Skips.yes HF.out rfl (Below.refl _ _)

end Go.Proofs.Qxb6001747a.Num
