import Derived.Test.Qxb6001747aHdrB
import Derived.Maps.OwnSet
import Derived.Deep.AppendLies
namespace Go.Proofs.Qxb6001747a.Hdr
open Go.RowKit Go.Maps

/-- The values that followed the name s among the first k pairs. -/
def G (nm vl : Nat → ByteArray) : Nat → ByteArray → List ByteArray
  | 0, _ => []
  | k + 1, s => G nm vl k s ++ if nm k = s then [vl k] else []
/-- How many names there are among the first k pairs. -/
def dc (nm vl : Nat → ByteArray) : Nat → Nat
  | 0 => 0
  | k + 1 => dc nm vl k + if (G nm vl k (nm k)).isEmpty then 1 else 0

theorem G_len (nm vl : Nat → ByteArray) (s : ByteArray) : ∀ k, (G nm vl k s).length ≤ k
  | 0 => by simp [G]
  | k + 1 => by
    have := G_len nm vl s k
    simp only [G, List.length_append]
    split <;> simp <;> omega

theorem dc_le (nm vl : Nat → ByteArray) : ∀ k, dc nm vl k ≤ k
  | 0 => by simp [dc]
  | k + 1 => by
    have := dc_le nm vl k
    simp only [dc]
    split <;> omega

theorem dc_pos (nm vl : Nat → ByteArray) : ∀ k, 0 < k → 0 < dc nm vl k
  | 0, h => by omega
  | 1, _ => by simp [dc, G]
  | k + 2, _ => by
    have := dc_pos nm vl (k + 1) (by omega)
    rw [dc]
    omega

/-- A map's element as itself. -/
def Rv (v : Value) : Option (DataW Value × List MemPlace) := some (.held v, [])
def kl (s : ByteArray) : Lit := .string s.data.toList
theorem kl_inj {s t : ByteArray} (h : kl s = kl t) : s = t := by
  unfold kl at h
  simp at h
  cases s; cases t
  simp at h
  rw [h]
theorem law : Keyed Try.prog 9 := string_keyed Try.underlying9
theorem zero36 (w : World) : (zeroValue 36).run Try.prog w = .ok (.slice none 0 0) w := by kernel_rfl
theorem keyed (s : ByteArray) (h : s.size ≤ maxLen) : keyOf Try.prog 9 (.string s) = some (kl s) := WideMaps.keyOf_string_mk Try.underlying9 h

/-- Block B is the map of the first k pairs. -/
structure Hdr (nm vl : Nat → ByteArray) (B k : Nat) (wr : World) (D : DataW Value) (V : ByteArray → Value) : Prop where
  own : wr.ownsMap Try.prog 9 Rv B k D
  key : ∀ s, D.atKey (kl s) (.held (.slice none 0 0)) = .held (V s)
  row : ∀ s, wr.ownsRow (B + 1) 9 1 (V s) (G nm vl k s).length ((G nm vl k s).map Value.string)
  has : ∀ s, Maps.has D (kl s) = !(G nm vl k s).isEmpty
  off : ∀ s t, s ≠ t → (V s).ownBlock = none ∨ (V s).ownBlock ≠ (V t).ownBlock
  size : Maps.size D = dc nm vl k

theorem hdr_made (nm vl : Nat → ByteArray) (w : World) : Hdr nm vl w.heap.size 0 (w.alloc (.map #[] 0)) (.map []) (fun _ => .slice none 0 0) where
  own := World.ownsMap_made _ _ _ _
  key _ := rfl
  row _ := World.ownsRow_nil _ _ _ _
  has _ := rfl
  off _ _ _ := .inl rfl
  size := rfl

theorem Hdr.kept {nm vl : Nat → ByteArray} {B k : Nat} {w w' : World} {D : DataW Value} {V : ByteArray → Value} (h : Hdr nm vl B k w D V) (hg : w.grownBy w' none) : Hdr nm vl B k w' D V where
  own := h.own.kept hg (by simp)
  key := h.key
  row s := (h.row s).kept hg (by cases (V s).ownBlock <;> simp)
  has := h.has
  off := h.off
  size := h.size

theorem Hdr.look {nm vl : Nat → ByteArray} {B k : Nat} {w : World} {D : DataW Value} {V : ByteArray → Value} (h : Hdr nm vl B k w D V) (s : ByteArray) (hs : s.size ≤ maxLen) :
    (Instr.lookup 33 (.map (some B)) (.string s) false).run Try.prog w = .ok (V s) w := by
  obtain ⟨v, ps, hrun, hv⟩ := h.own.lookup (e := 36) law Try.underlying33 (zero36 w) (zd := .held (.slice none 0 0)) (zp := []) rfl (keyed s hs)
  rw [h.key] at hv
  simp [Rv] at hv
  rw [hrun, hv.1]

theorem Hdr.store {nm vl : Nat → ByteArray} {B k : Nat} {w w1 : World} {D : DataW Value} {V : ByteArray → Value} (h : Hdr nm vl B k w D V) (hk : k < maxLen) (hs : (nm k).size ≤ maxLen) {v' : Value}
    (hg : w.grownBy w1 (V (nm k)).ownBlock) (ho : w1.ownsRow (B + 1) 9 1 v' ((G nm vl k (nm k)).length + 1) ((G nm vl k (nm k)).map Value.string ++ [.string (vl k)]))
    (hl : v'.ownBlock = (V (nm k)).ownBlock ∨ ∃ g, v'.ownBlock = some g ∧ w.heap.size ≤ g) :
    ∃ w2 D' V', (Instr.mapUpdate 33 (.map (some B)) (.string (nm k)) v').run Try.prog w1 = .ok () w2 ∧ Hdr nm vl B (k + 1) w2 D' V' ∧ w1.grownBy w2 (some B) := by
  have hB : ∀ s, (V s).ownBlock ≠ some B := fun s e => by
    have := ((h.row s).lt B e).1
    omega
  have own1 : w1.ownsMap Try.prog 9 Rv B k D := h.own.kept hg (fun e => hB _ e.symm)
  obtain ⟨w2, hrun, own2, turned⟩ := own1.store (e := 36) law Try.underlying33 hk (keyed (nm k) hs) (val := v') (d := .held v') (ps := []) rfl
  have hg2 := turned.grown
  have hv'B : v'.ownBlock ≠ some B := fun e => by
    have := (ho.lt B e).1
    omega
  -- who lies where
  have far : ∀ s, s ≠ nm k → (V s).ownBlock = none ∨ (V s).ownBlock ≠ v'.ownBlock := fun s hne => by
    rcases hl with hl | ⟨g, hl, hge⟩
    · rw [hl]
      exact h.off s (nm k) hne
    · cases hVs : (V s).ownBlock with
      | none => exact .inl rfl
      | some j =>
        have := ((h.row s).lt j hVs).2
        exact .inr (by rw [hl]; simp; omega)
  refine ⟨w2, D.put (kl (nm k)) (.held v'), fun s => if s = nm k then v' else V s, hrun, ⟨own2, fun s => ?_, fun s => ?_, fun s => ?_, fun s t hne => ?_, ?_⟩, hg2⟩
  · by_cases hsk : s = nm k
    · subst hsk
      rw [if_pos rfl]
      exact atKey_put_same h.own.isMap (law.key (keyed _ hs)) _ _
    · rw [if_neg hsk, atKey_put_other (fun e => hsk (kl_inj e))]
      exact h.key s
  · by_cases hsk : s = nm k
    · subst hsk
      simp only [if_true, G]
      simp only [List.length_append, List.map_append, List.length_cons, List.length_nil, List.map_cons, List.map_nil]
      exact ho.kept hg2 (.inr hv'B)
    · simp only [if_neg hsk, G, if_neg (fun e => hsk e.symm : ¬ nm k = s), List.append_nil]
      have hne : (V s).ownBlock = none ∨ (V s).ownBlock ≠ (V (nm k)).ownBlock := h.off s _ hsk
      exact ((h.row s).kept hg hne).kept hg2 (.inr (hB s))
  · by_cases hsk : s = nm k
    · subst hsk
      rw [has_put_same h.own.isMap (law.key (keyed _ hs))]
      simp [G]
    · rw [has_put_other (fun e => hsk (kl_inj e)), h.has s]
      simp only [G, if_neg (fun e => hsk e.symm : ¬ nm k = s), List.append_nil]
  · by_cases hsk : s = nm k
    · have htk : t ≠ nm k := fun e => hne (hsk.trans e.symm)
      simp only [if_pos hsk, if_neg htk]
      cases hv : v'.ownBlock with
      | none => exact .inl rfl
      | some g =>
        rcases far t htk with hn | hn
        · exact .inr (by rw [hn]; simp)
        · exact .inr (fun e => hn (by rw [hv]; exact e.symm))
    · by_cases htk : t = nm k
      · simp only [if_neg hsk, if_pos htk]
        exact far s hsk
      · simp only [if_neg hsk, if_neg htk]
        exact h.off s t hne
  · rw [size_put (h.own.tidy law), h.has, h.size, dc]
    cases (G nm vl k (nm k)).isEmpty <;> simp

end Go.Proofs.Qxb6001747a.Hdr
