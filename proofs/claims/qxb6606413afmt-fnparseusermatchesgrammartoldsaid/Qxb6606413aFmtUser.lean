/-
  Seat b6606413aF: the plain law of users: what User.String writes, and when it is read back.
-/
import Derived.Test.Qxb6606413aFmtW5
namespace Go.Proofs.Qxb6606413aFmt
open Go.RowKit Go.Lib

/-- What User.String writes. -/
def uStr (ty id rel : ByteArray) : ByteArray := if rel.toList.isEmpty then ty ++ ⟨#[58]⟩ ++ id else ty ++ ⟨#[58]⟩ ++ id ++ ⟨#[35]⟩ ++ rel

/-- The user's parts are names. -/
def uOK (fm : Bool) (ty id rel : ByteArray) : Bool :=
  nameOK fm ty.data.toList && (nameOK fm id.data.toList || (id.toList == [42] && rel.toList.isEmpty)) && (rel.toList.isEmpty || nameOK fm rel.data.toList)

theorem partOK_wild (fm : Bool) (l : List UInt8) : partOK fm true l = (nameOK fm l || l == [42]) := by
  by_cases h : l = [42]
  · subst h
    have : validD [42] = true := by rw [validD_cons 42 [] (by decide)]; rfl
    simp [partOK, this]
  · have : (l == [42]) = false := by simpa using h
    simp [partOK, nameOK, this]

theorem toList_data (s : ByteArray) : s.toList = s.data.toList := (empty_toList s)

theorem takeWhile_at (c : UInt8) (a b : List UInt8) (h : c ∉ a) : (a ++ c :: b).takeWhile (fun x => x != c) = a := by
  have hall : ∀ x ∈ a, (x != c) = true := fun x hx => by
    simp
    rintro rfl
    exact h hx
  rw [List.takeWhile_append_of_pos hall]
  simp
theorem dropWhile_at (c : UInt8) (a b : List UInt8) (h : c ∉ a) : ((a ++ c :: b).dropWhile (fun x => x != c)).drop 1 = b := by
  have hall : ∀ x ∈ a, (x != c) = true := fun x hx => by
    simp
    rintro rfl
    exact h hx
  rw [List.dropWhile_append_of_pos hall]
  simp

theorem bef_at (c : UInt8) (s a b : ByteArray) (hs : s.data.toList = a.data.toList ++ c :: b.data.toList) (h : c ∉ a.data.toList) : bef c s = a :=
  bytes_ext (by rw [bef_list, hs, takeWhile_at c _ _ h])
theorem aft_at (c : UInt8) (s a b : ByteArray) (hs : s.data.toList = a.data.toList ++ c :: b.data.toList) (h : c ∉ a.data.toList) : aft c s = b :=
  bytes_ext (by rw [aft_list, hs, dropWhile_at c _ _ h])
theorem hasB_at (c : UInt8) (s a b : ByteArray) (hs : s.data.toList = a.data.toList ++ c :: b.data.toList) : hasB c s = true := by
  simp [hasB, hs]
theorem bef_no (c : UInt8) (s : ByteArray) (h : c ∉ s.data.toList) : bef c s = s :=
  bytes_ext (by rw [bef_list]; exact (take_of_none _ c (fun k hk => h (List.mem_of_getElem? hk))).1)
theorem aft_no (c : UInt8) (s : ByteArray) (h : c ∉ s.data.toList) : aft c s = ⟨#[]⟩ :=
  bytes_ext (by rw [aft_list]; exact (take_of_none _ c (fun k hk => h (List.mem_of_getElem? hk))).2.1)
theorem hasB_no (c : UInt8) (s : ByteArray) (h : c ∉ s.data.toList) : hasB c s = false := by
  simpa [hasB] using h

theorem empty_ba (s : ByteArray) (h : s.toList.isEmpty = true) : s = ⟨#[]⟩ := by
  apply bytes_ext
  rw [toList_data] at h
  simpa using h

/-- Reading what is written gives the parts back, where they are names. -/
theorem user_back (fm : Bool) (ty id rel : ByteArray) (h : uOK fm ty id rel = true) :
    puOK fm (uStr ty id rel) = true ∧ bef 58 (uStr ty id rel) = ty ∧ bef 35 (aft 58 (uStr ty id rel)) = id ∧ aft 35 (aft 58 (uStr ty id rel)) = rel := by
  simp only [uOK, Bool.and_eq_true] at h
  obtain ⟨⟨h1, h2⟩, h3⟩ := h
  have hc1 := nameOK_colon h1
  have hid : (35 : UInt8) ∉ id.data.toList := by
    simp only [Bool.or_eq_true, Bool.and_eq_true, beq_iff_eq] at h2
    rcases h2 with h2 | ⟨h2, _⟩
    · exact nameOK_hash h2
    · rw [← toList_data, h2]; decide
  cases hr : rel.toList.isEmpty with
  | true =>
    have er := empty_ba rel hr
    subst er
    have hs : (uStr ty id ⟨#[]⟩).data.toList = ty.data.toList ++ 58 :: id.data.toList := by
      unfold uStr
      rw [if_pos hr]
      simp
    have a1 := aft_at 58 _ ty id hs hc1
    refine ⟨?_, bef_at 58 _ ty id hs hc1, ?_, ?_⟩
    · unfold puOK
      rw [a1, hasB_at 58 _ ty id hs, bef_at 58 _ ty id hs hc1, bef_no 35 id hid, hasB_no 35 id hid]
      simp only [Bool.not_false, Bool.true_and, Bool.true_or, Bool.and_true, tyOK, partOK_name, partOK_wild, h1]
      simp only [Bool.or_eq_true, Bool.and_eq_true, beq_iff_eq] at h2 ⊢
      rcases h2 with h2 | ⟨h2, _⟩
      · exact .inl h2
      · right; rw [← toList_data]; exact h2
    · rw [a1, bef_no 35 id hid]
    · rw [a1, aft_no 35 id hid]
  | false =>
    rw [hr] at h2 h3
    simp only [Bool.and_false, Bool.or_false, Bool.false_or] at h2 h3
    have hs : (uStr ty id rel).data.toList = ty.data.toList ++ 58 :: (id ++ ⟨#[35]⟩ ++ rel).data.toList := by
      unfold uStr
      rw [hr, if_neg (by simp)]
      simp
    have hs2 : (id ++ ⟨#[35]⟩ ++ rel).data.toList = id.data.toList ++ 35 :: rel.data.toList := by simp
    have a1 := aft_at 58 _ ty _ hs hc1
    refine ⟨?_, bef_at 58 _ ty _ hs hc1, ?_, ?_⟩
    · unfold puOK
      rw [a1, hasB_at 58 _ ty _ hs, bef_at 58 _ ty _ hs hc1, bef_at 35 _ id rel hs2 hid, aft_at 35 _ id rel hs2 hid, hasB_at 35 _ id rel hs2]
      simp only [Bool.not_true, Bool.true_and, Bool.false_or, tyOK, partOK_name, h1, h2, h3]
    · rw [a1, bef_at 35 _ id rel hs2 hid]
    · rw [a1, aft_at 35 _ id rel hs2 hid]

/-- What reads as a user has names for parts. -/
theorem user_names (fm : Bool) (s : ByteArray) (h : puOK fm s = true) : uOK fm (bef 58 s) (bef 35 (aft 58 s)) (aft 35 (aft 58 s)) = true := by
  simp only [puOK, tyOK, Bool.and_eq_true] at h
  obtain ⟨_, ⟨h2, h3⟩, h4⟩ := h
  rw [partOK_name] at h2
  unfold uOK
  rw [h2]
  cases hb : hasB 35 (aft 58 s) with
  | true =>
    rw [hb] at h3 h4
    simp only [Bool.not_true, Bool.false_or, partOK_name] at h3 h4
    simp [h3, h4]
  | false =>
    rw [hb] at h3
    simp only [Bool.not_false, partOK_wild] at h3
    have hno : (35 : UInt8) ∉ (aft 58 s).data.toList := by simpa [hasB] using hb
    rw [aft_no 35 _ hno]
    have : (ByteArray.mk #[]).toList.isEmpty = true := by rw [toList_data]; rfl
    rw [this, toList_data]
    simpa using h3

/-- **The law of users.** -/
theorem user_law (fm : Bool) (ty id rel : ByteArray) :
    (puOK fm (uStr ty id rel) && ((bef 58 (uStr ty id rel)).toList == ty.toList && ((bef 35 (aft 58 (uStr ty id rel))).toList == id.toList && (aft 35 (aft 58 (uStr ty id rel))).toList == rel.toList))) = uOK fm ty id rel := by
  have inj : ∀ a b : ByteArray, a.toList = b.toList → a = b := fun a b h => bytes_ext (by rw [← toList_data, ← toList_data, h])
  cases h : uOK fm ty id rel with
  | true =>
    obtain ⟨h1, h2, h3, h4⟩ := user_back fm ty id rel h
    rw [h1, h2, h3, h4]
    simp
  | false =>
    cases hp : puOK fm (uStr ty id rel) with
    | false => rfl
    | true =>
      have hn := user_names fm _ hp
      by_cases he : bef 58 (uStr ty id rel) = ty ∧ bef 35 (aft 58 (uStr ty id rel)) = id ∧ aft 35 (aft 58 (uStr ty id rel)) = rel
      · rw [he.1, he.2.1, he.2.2, h] at hn
        cases hn
      · rw [Bool.true_and]
        simp only [Bool.and_eq_false_iff, beq_eq_false_iff_ne]
        by_cases e1 : bef 58 (uStr ty id rel) = ty
        · by_cases e2 : bef 35 (aft 58 (uStr ty id rel)) = id
          · exact .inr (.inr fun e3 => he ⟨e1, e2, inj _ _ e3⟩)
          · exact .inr (.inl fun e => e2 (inj _ _ e))
        · exact .inl fun e => e1 (inj _ _ e)
end Go.Proofs.Qxb6606413aFmt
