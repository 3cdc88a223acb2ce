/-
  Seat b6606413aF: the law's grammar by counting separators is the reader's.
-/
import Derived.Test.Qxb6606413aFmtUser
namespace Go.Proofs.Qxb6606413aFmt
open Go.RowKit Go.Lib

theorem puOK_iff (fm : Bool) (s : ByteArray) : puOK fm s = true ↔ (58 : UInt8) ∈ s.data.toList ∧ nameOK fm (bef 58 s).data.toList = true ∧
    (((35 : UInt8) ∉ (aft 58 s).data.toList ∧ (nameOK fm (aft 58 s).data.toList = true ∨ (aft 58 s).data.toList = [42])) ∨
     ((35 : UInt8) ∈ (aft 58 s).data.toList ∧ nameOK fm (bef 35 (aft 58 s)).data.toList = true ∧ nameOK fm (aft 35 (aft 58 s)).data.toList = true)) := by
  unfold puOK tyOK
  by_cases h : (35 : UInt8) ∈ (aft 58 s).data.toList
  · have hb : hasB 35 (aft 58 s) = true := by simpa [hasB] using h
    rw [hb]
    simp only [Bool.not_true, Bool.false_or, partOK_name, Bool.and_eq_true, h, not_true_eq_false, false_and, false_or, true_and]
    have hc : hasB 58 s = true ↔ (58 : UInt8) ∈ s.data.toList := by simp [hasB]
    rw [hc]
    constructor
    · rintro ⟨h1, ⟨h2, h3⟩, h4⟩; exact ⟨h1, h2, h3, h4⟩
    · rintro ⟨h1, h2, h3, h4⟩; exact ⟨h1, ⟨h2, h3⟩, h4⟩
  · have hb : hasB 35 (aft 58 s) = false := by simpa [hasB] using h
    rw [hb, bef_no 35 _ h]
    simp only [Bool.not_false, Bool.true_or, Bool.and_true, partOK_name, partOK_wild, Bool.and_eq_true, Bool.or_eq_true, beq_iff_eq, h, not_false_eq_true, true_and, false_and, or_false]
    have hc : hasB 58 s = true ↔ (58 : UInt8) ∈ s.data.toList := by simp [hasB]
    rw [hc]

/-- A text with a c is what stands ahead of the first, c, and what stands behind. -/
theorem cut_eq (c : UInt8) (s : ByteArray) (h : c ∈ s.data.toList) : s.data.toList = (bef c s).data.toList ++ c :: (aft c s).data.toList := by
  rw [bef_list, aft_list]
  generalize s.data.toList = l at h
  induction l with
  | nil => cases h
  | cons b l ih =>
    by_cases hb : b = c
    · subst hb; simp
    · have hbc : (b != c) = true := by simpa using hb
      have hm : c ∈ l := by
        rcases List.mem_cons.1 h with e | e
        · exact absurd e.symm hb
        · exact e
      have := ih hm
      simp only [List.takeWhile_cons, List.dropWhile_cons, hbc, if_true, List.cons_append]
      rw [← this]

theorem bef_notmem (c : UInt8) (s : ByteArray) : c ∉ (bef c s).data.toList := by
  rw [bef_list]
  intro h
  have := List.all_takeWhile (p := fun b => b != c) (l := s.data.toList)
  have h2 := List.all_eq_true.1 this c h
  simp at h2

/-- How often c stands. -/
def cnt (c : UInt8) (s : ByteArray) : Nat := s.data.toList.count c

theorem cnt_cut (c d : UInt8) (s : ByteArray) (h : c ∈ s.data.toList) : s.data.toList.count d = (bef c s).data.toList.count d + (if c = d then 1 else 0) + (aft c s).data.toList.count d := by
  conv => lhs; rw [cut_eq c s h]
  rw [List.count_append, List.count_cons]
  by_cases e : c = d
  · subst e; simp; omega
  · simp [e]

/-- What reads as a user has one colon, and a hash at most once, behind it. -/
theorem puOK_counts (fm : Bool) (s : ByteArray) (h : puOK fm s = true) : cnt 58 s = 1 ∧ (cnt 35 s = 0 ∧ (35 : UInt8) ∉ (aft 58 s).data.toList ∨ cnt 35 s = 1 ∧ (35 : UInt8) ∈ (aft 58 s).data.toList) := by
  obtain ⟨h1, h2, h3⟩ := (puOK_iff fm s).1 h
  have c1 := cnt_cut 58 58 s h1
  have c2 := cnt_cut 58 35 s h1
  have z1 : (bef 58 s).data.toList.count 58 = 0 := List.count_eq_zero.2 (bef_notmem 58 s)
  have z2 : (bef 58 s).data.toList.count 35 = 0 := List.count_eq_zero.2 (nameOK_hash h2)
  simp only [if_true] at c1
  rw [if_neg (by decide)] at c2
  unfold cnt
  rcases h3 with ⟨h3, h4⟩ | ⟨h3, h4, h5⟩
  · have z3 : (aft 58 s).data.toList.count 58 = 0 := by
      rcases h4 with h4 | h4
      · exact List.count_eq_zero.2 (nameOK_colon h4)
      · rw [h4]; rfl
    have z4 : (aft 58 s).data.toList.count 35 = 0 := List.count_eq_zero.2 h3
    exact ⟨by omega, .inl ⟨by omega, h3⟩⟩
  · have d1 := cnt_cut 35 58 (aft 58 s) h3
    have d2 := cnt_cut 35 35 (aft 58 s) h3
    have y1 : (bef 35 (aft 58 s)).data.toList.count 58 = 0 := List.count_eq_zero.2 (nameOK_colon h4)
    have y2 : (aft 35 (aft 58 s)).data.toList.count 58 = 0 := List.count_eq_zero.2 (nameOK_colon h5)
    have y3 : (bef 35 (aft 58 s)).data.toList.count 35 = 0 := List.count_eq_zero.2 (bef_notmem 35 _)
    have y4 : (aft 35 (aft 58 s)).data.toList.count 35 = 0 := List.count_eq_zero.2 (nameOK_hash h5)
    rw [if_neg (by decide)] at d1
    simp only [if_true] at d2
    exact ⟨by omega, .inr ⟨by omega, h3⟩⟩
end Go.Proofs.Qxb6606413aFmt
