/-
  Seat b6606413aF: well-formed UTF-8, plain.
-/
import Derived.Test.Qxb6606413aFmtFrame
namespace Go.Proofs.Qxb6606413aFmt
open Go.RowKit Go.Lib

def good2 (n b0 b1 : Nat) : Prop := 194 ≤ b0 ∧ b0 < 224 ∧ 2 ≤ n ∧ 128 ≤ b1 ∧ b1 ≤ 191
def good3 (n b0 b1 b2 : Nat) : Prop := 224 ≤ b0 ∧ b0 < 240 ∧ 3 ≤ n ∧ 128 ≤ b1 ∧ b1 ≤ 191 ∧ (b0 = 224 → 160 ≤ b1) ∧ (b0 = 237 → b1 ≤ 159) ∧ 128 ≤ b2 ∧ b2 ≤ 191
def good4 (n b0 b1 b2 b3 : Nat) : Prop := 240 ≤ b0 ∧ b0 ≤ 244 ∧ 4 ≤ n ∧ 128 ≤ b1 ∧ b1 ≤ 191 ∧ (b0 = 240 → 144 ≤ b1) ∧ (b0 = 244 → b1 ≤ 143) ∧ 128 ≤ b2 ∧ b2 ≤ 191 ∧ 128 ≤ b3 ∧ b3 ≤ 191

theorem dec_bad (n b0 b1 b2 b3 : Nat) (h0 : 128 ≤ b0) (hb : b0 < 256) (h2 : ¬ good2 n b0 b1) (h3 : ¬ good3 n b0 b1 b2) (h4 : ¬ good4 n b0 b1 b2 b3) : decodeN n b0 b1 b2 b3 = (65533, 1) := by
  simp only [good2, good3, good4] at h2 h3 h4
  rcases decodeN_shape n b0 b1 b2 b3 with ⟨c, e⟩ | ⟨c1, c2, c3, cv, e⟩ | ⟨c1, c2, c3, c4, cv, cs, e⟩ | ⟨c1, c2, c3, c4, c5, cv, cw, e⟩ | e
  · omega
  · omega
  · omega
  · omega
  · exact e

theorem dec_two (n b0 b1 b2 b3 : Nat) (h : good2 n b0 b1) : decodeN n b0 b1 b2 b3 = (b0 % 32 * 64 + b1 % 64, 2) := by
  obtain ⟨h1, h2, h3, h4, h5⟩ := h
  unfold decodeN
  rw [if_neg (by omega), if_pos (by omega), if_pos (by omega)]

theorem dec_three (n b0 b1 b2 b3 : Nat) (h : good3 n b0 b1 b2) : decodeN n b0 b1 b2 b3 = (b0 % 16 * 4096 + b1 % 64 * 64 + b2 % 64, 3) := by
  obtain ⟨h1, h2, h3, h4, h5, h6, h7, h8, h9⟩ := h
  unfold decodeN
  rw [if_neg (by omega), if_neg (by omega), if_pos (by omega), if_pos (by omega)]

theorem dec_four (n b0 b1 b2 b3 : Nat) (h : good4 n b0 b1 b2 b3) : decodeN n b0 b1 b2 b3 = (b0 % 8 * 262144 + b1 % 64 * 4096 + b2 % 64 * 64 + b3 % 64, 4) := by
  obtain ⟨h1, h2, h3, h4, h5, h6, h7, h8, h9, h10, h11⟩ := h
  unfold decodeN
  rw [if_neg (by omega), if_neg (by omega), if_neg (by omega), if_pos (by omega), if_pos (by omega)]

def gb (s : ByteArray) (i : Nat) : Nat := (s.get! i).toNat
theorem gb_eq (s : ByteArray) (i : Nat) (h : i < s.size) : gb s i = s[i].toNat := by
  unfold gb
  rw [← getD_get!', List.getD_eq_getElem?_getD, Array.getElem?_toList, Array.getElem?_eq_getElem (show i < s.data.size from h)]
  rfl
theorem gb_lt (s : ByteArray) (i : Nat) : gb s i < 256 := UInt8.toNat_lt _

/-- What lies behind position i is well formed. -/
def vd (s : ByteArray) (i : Nat) : Bool := validD (s.data.toList.drop i)

theorem vd_end (s : ByteArray) (i : Nat) (h : ¬ i < s.size) : vd s i = true := by
  unfold vd
  have : s.data.toList.drop i = [] := by
    apply List.drop_eq_nil_of_le
    rw [← Lib.size_eq]
    omega
  rw [this, validD_nil]

theorem vd_step (s : ByteArray) (i : Nat) (h : i < s.size) : vd s i = if (Utf8.decode s i).1 = 65533 ∧ (Utf8.decode s i).2 = 1 then false else vd s (i + (Utf8.decode s i).2) := by
  unfold vd
  have hne : s.data.toList.drop i ≠ [] := by
    intro e
    have := congrArg List.length e
    rw [List.length_drop, ← Lib.size_eq] at this
    simp at this
    omega
  rw [validD_step _ hne, Lib.decodeL_drop, List.drop_drop]

theorem vd_low (s : ByteArray) (i : Nat) (h : i < s.size) (h0 : s[i].toNat < 128) : vd s i = vd s (i + 1) := by
  have e : Utf8.decode s i = (gb s i, 1) := by
    rw [decode_at]
    show decodeN _ (gb s i) _ _ _ = _
    unfold decodeN
    rw [if_pos (by rw [gb_eq s i h]; exact h0)]
  rw [vd_step s i h, e, if_neg (by rw [gb_eq s i h]; dsimp only; omega)]

theorem vd_bad (s : ByteArray) (i : Nat) (h : i < s.size) (h0 : 128 ≤ gb s i) (h2 : ¬ good2 (s.size - i) (gb s i) (gb s (i + 1))) (h3 : ¬ good3 (s.size - i) (gb s i) (gb s (i + 1)) (gb s (i + 2)))
    (h4 : ¬ good4 (s.size - i) (gb s i) (gb s (i + 1)) (gb s (i + 2)) (gb s (i + 3))) : vd s i = false := by
  have e : Utf8.decode s i = (65533, 1) := by
    rw [decode_at]
    exact dec_bad _ _ _ _ _ h0 (gb_lt s i) h2 h3 h4
  rw [vd_step s i h, e, if_pos ⟨rfl, rfl⟩]

theorem vd_two (s : ByteArray) (i : Nat) (h : i < s.size) (hg : good2 (s.size - i) (gb s i) (gb s (i + 1))) : vd s i = vd s (i + 2) := by
  have e : Utf8.decode s i = (gb s i % 32 * 64 + gb s (i + 1) % 64, 2) := by
    rw [decode_at]
    exact dec_two _ _ _ _ _ hg
  rw [vd_step s i h, e, if_neg (by dsimp only; omega)]

theorem vd_three (s : ByteArray) (i : Nat) (h : i < s.size) (hg : good3 (s.size - i) (gb s i) (gb s (i + 1)) (gb s (i + 2))) : vd s i = vd s (i + 3) := by
  have e : Utf8.decode s i = (gb s i % 16 * 4096 + gb s (i + 1) % 64 * 64 + gb s (i + 2) % 64, 3) := by
    rw [decode_at]
    exact dec_three _ _ _ _ _ hg
  rw [vd_step s i h, e, if_neg (by dsimp only; omega)]

theorem vd_four (s : ByteArray) (i : Nat) (h : i < s.size) (hg : good4 (s.size - i) (gb s i) (gb s (i + 1)) (gb s (i + 2)) (gb s (i + 3))) : vd s i = vd s (i + 4) := by
  have e : Utf8.decode s i = (gb s i % 8 * 262144 + gb s (i + 1) % 64 * 4096 + gb s (i + 2) % 64 * 64 + gb s (i + 3) % 64, 4) := by
    rw [decode_at]
    exact dec_four _ _ _ _ _ hg
  rw [vd_step s i h, e, if_neg (by dsimp only; omega)]

end Go.Proofs.Qxb6606413aFmt
