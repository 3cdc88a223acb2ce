/-
  The plain side of seat b6606413aF: which texts are names, how a text is cut, no Go in sight.
-/
import Derived.Lib.ValidLaws
import Derived.Lib.MapLaws
import Derived.Lib.IsU
import Derived.Shelf.Unicode.IsSpaceAny
import Derived.Lib.IndexMore
namespace Go.Proofs.Qxb6606413aFmt
open Go.Lib

/-- The table of the format characters, as the row lists it. -/
def cfTab : RTab := { r16 := #[(173, 1536, 1363), (1537, 1541, 1), (1564, 1757, 193), (1807, 2192, 385), (2193, 2274, 81), (6158, 8203, 2045), (8204, 8207, 1), (8234, 8238, 1), (8288, 8292, 1), (8294, 8303, 1), (65279, 65529, 250), (65530, 65531, 1)], r32 := #[(69821, 69837, 16), (78896, 78911, 1), (113824, 113827, 1), (119155, 119162, 1), (917505, 917536, 31), (917537, 917631, 1)], off := 0 }

/-- The rune cannot stand in a name. -/
def bad (fm : Bool) (r : Int) : Bool := r == 58 || r == 35 || r == 42 || isSpaceZ r || isControlU r || (!fm && isGo cfTab r)

/-- No rune of the text is refused. -/
def okGo (fm : Bool) : Nat → List UInt8 → Bool
  | 0, _ => true
  | n + 1, l => if l = [] then true else !bad fm (decodeL l).1 && okGo fm n (l.drop (decodeL l).2)

/-- A name. -/
def nameOK (fm : Bool) (l : List UInt8) : Bool := !l.isEmpty && validD l && okGo fm l.length l

theorem okGo_nil (fm : Bool) : ∀ n, okGo fm n [] = true
  | 0 => rfl
  | _ + 1 => by simp [okGo]

theorem take_high (l : List UInt8) (hne : l ≠ []) (h0 : 128 ≤ (l.getD 0 0).toNat) : ∀ b ∈ l.take (decodeL l).2, 128 ≤ b.toNat := by
  have hl : 0 < l.length := List.length_pos_iff.2 hne
  intro b hb
  obtain ⟨k, hk, rfl⟩ := List.mem_iff_getElem.1 hb
  have hk' : k < (decodeL l).2 ∧ k < l.length := by
    have := hk
    simp at this
    omega
  rw [List.getElem_take]
  have hg : ∀ (h : k < l.length), l[k] = l.getD k 0 := fun h => by simp [List.getD_eq_getElem?_getD, h]
  rw [hg hk'.2]
  have hk1 := hk'.1
  rw [decodeL_N] at hk1
  rcases decodeN_shape l.length (l.getD 0 0).toNat (l.getD 1 0).toNat (l.getD 2 0).toNat (l.getD 3 0).toNat with ⟨c, e⟩ | ⟨c1, c2, c3, cv, e⟩ | ⟨c1, c2, c3, c4, cv, cs, e⟩ | ⟨c1, c2, c3, c4, c5, cv, cw, e⟩ | e
  · omega
  · rw [e] at hk1
    have : k = 0 ∨ k = 1 := by simp at hk1; omega
    rcases this with rfl | rfl <;> omega
  · rw [e] at hk1
    have : k = 0 ∨ k = 1 ∨ k = 2 := by simp at hk1; omega
    rcases this with rfl | rfl | rfl <;> omega
  · rw [e] at hk1
    have : k = 0 ∨ k = 1 ∨ k = 2 ∨ k = 3 := by simp at hk1; omega
    rcases this with rfl | rfl | rfl | rfl <;> omega
  · rw [e] at hk1
    have : k = 0 := by simp at hk1; omega
    subst this
    exact h0

/-- An ASCII byte of a text is one of its runes. -/
theorem okGo_ascii (fm : Bool) : ∀ (n : Nat) (l : List UInt8), l.length ≤ n → okGo fm n l = true → ∀ b ∈ l, b.toNat < 128 → bad fm b.toNat = false
  | 0, l, hl, _, b, hb, _ => by
    have : l = [] := List.length_eq_zero_iff.1 (by omega)
    subst this
    cases hb
  | n + 1, l, hl, h, b, hb, ha => by
    have hne : l ≠ [] := by rintro rfl; cases hb
    have hw := decodeL_width l
    simp only [okGo, if_neg hne, Bool.and_eq_true] at h
    have hsplit : b ∈ l.take (decodeL l).2 ∨ b ∈ l.drop (decodeL l).2 := by
      rw [← List.mem_append, List.take_append_drop]; exact hb
    rcases hsplit with h1 | h1
    · by_cases h0 : 128 ≤ (l.getD 0 0).toNat
      · have := take_high l hne h0 b h1
        omega
      · cases l with
        | nil => exact absurd rfl hne
        | cons c t =>
          have hc : c.toNat < 128 := by simpa using h0
          rw [decodeL_ascii c t hc] at h h1
          have : b = c := by simpa using h1
          subst this
          simpa using h.1
    · exact okGo_ascii fm n _ (by rw [List.length_drop]; omega) h.2 b h1 ha

theorem nameOK_ascii {fm : Bool} {l : List UInt8} (h : nameOK fm l = true) : ∀ b ∈ l, b.toNat < 128 → bad fm b.toNat = false := by
  simp only [nameOK, Bool.and_eq_true] at h
  exact okGo_ascii fm _ l (Nat.le_refl _) h.2

theorem nameOK_ne {fm : Bool} {l : List UInt8} (h : nameOK fm l = true) : l ≠ [] := by
  rintro rfl
  simp [nameOK] at h

theorem nameOK_colon {fm : Bool} {l : List UInt8} (h : nameOK fm l = true) : (58 : UInt8) ∉ l := by
  intro hm
  have := nameOK_ascii h 58 hm (by decide)
  simp [bad] at this
theorem nameOK_hash {fm : Bool} {l : List UInt8} (h : nameOK fm l = true) : (35 : UInt8) ∉ l := by
  intro hm
  have := nameOK_ascii h 35 hm (by decide)
  simp [bad] at this
theorem nameOK_star {fm : Bool} {l : List UInt8} (h : nameOK fm l = true) : (42 : UInt8) ∉ l := by
  intro hm
  have := nameOK_ascii h 42 hm (by decide)
  simp [bad] at this
end Go.Proofs.Qxb6606413aFmt
