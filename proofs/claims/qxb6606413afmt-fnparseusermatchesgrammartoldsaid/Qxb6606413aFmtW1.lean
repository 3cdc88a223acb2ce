/-
  Seat b6606413aF: strings.Cut at a separator of one byte.
-/
import Derived.Test.Qxb6606413aFmtShelf
import Derived.Test.Qxb6606413aFmtPlain
import Derived.Lib.IndexLaws
import Derived.Lib.Strings
import Derived.WalkKit
namespace Go.Proofs.Qxb6606413aFmt
open Go.RowKit Go.Lib

/-- The text ahead of the first c; behind it; whether there is one. -/
def bef (c : UInt8) (s : ByteArray) : ByteArray := ⟨(s.data.toList.takeWhile (fun b => b != c)).toArray⟩
def aft (c : UInt8) (s : ByteArray) : ByteArray := ⟨((s.data.toList.dropWhile (fun b => b != c)).drop 1).toArray⟩
def hasB (c : UInt8) (s : ByteArray) : Bool := s.data.toList.contains c

theorem take_of_index : ∀ (l : List UInt8) (c : UInt8) (o : Nat), l[o]? = some c → (∀ k, k < o → l[k]? ≠ some c) → l.takeWhile (fun b => b != c) = l.take o ∧ (l.dropWhile (fun b => b != c)).drop 1 = l.drop (o + 1) ∧ l.contains c = true
  | [], c, o, h, _ => by simp at h
  | b :: l, c, 0, h, _ => by
    have : b = c := by simpa using h
    subst this
    simp
  | b :: l, c, o + 1, h, hk => by
    have hb : b ≠ c := by
      intro e
      exact hk 0 (by omega) (by simp [e])
    obtain ⟨h1, h2, h3⟩ := take_of_index l c o (by simpa using h) (fun k hlt he => hk (k + 1) (by omega) (by simpa using he))
    have hbc : (b != c) = true := by simpa using hb
    refine ⟨?_, ?_, ?_⟩
    · simp [hbc, h1]
    · simp [hbc]; simpa using h2
    · simp; right; simpa using h3

theorem take_of_none (l : List UInt8) (c : UInt8) (h : ∀ k : Nat, l[k]? ≠ some c) : l.takeWhile (fun b => b != c) = l ∧ (l.dropWhile (fun b => b != c)).drop 1 = [] ∧ l.contains c = false := by
  have hm : c ∉ l := by
    intro hc
    obtain ⟨k, hk, e⟩ := List.mem_iff_getElem.1 hc
    exact h k (by simp [List.getElem?_eq_getElem hk, e])
  have hall : ∀ b ∈ l, (b != c) = true := fun b hb => by
    simp
    rintro rfl
    exact hm hb
  refine ⟨?_, ?_, by simpa using hm⟩
  · have := List.takeWhile_append_of_pos (p := fun b => b != c) (l₁ := l) (l₂ := []) hall
    simpa using this
  · have : l.dropWhile (fun b => b != c) = [] := by
      have := List.dropWhile_append_of_pos (p := fun b => b != c) (l₁ := l) (l₂ := []) hall
      simpa using this
    rw [this]; rfl

theorem bytes_ext {a b : ByteArray} (h : a.data.toList = b.data.toList) : a = b := by
  cases a; cases b
  simp at h
  subst h
  rfl

theorem extract_take (s : ByteArray) (o : Nat) : s.extract 0 o = ⟨(s.data.toList.take o).toArray⟩ := by
  apply bytes_ext
  simp [ByteArray.data_extract]

theorem extract_drop (s : ByteArray) (o : Nat) : s.extract o s.size = ⟨(s.data.toList.drop o).toArray⟩ := by
  apply bytes_ext
  have e : s.size = s.data.toList.length := Lib.size_eq s
  rw [ByteArray.data_extract]
  simp only [Array.toList_extract]
  rw [e, List.extract_eq_take_drop, List.take_of_length_le]
  simp

set_option maxHeartbeats 1600000 in
theorem cutLite (s : ByteArray) (c : UInt8) (w : World) (hs : s.size ≤ 1000000000) :
    Calls Tryf.prog 33 #[.string s, .string ⟨#[c]⟩] w fun e w' => e = .returned (.tuple #[.string (bef c s), .string (aft c s), .bool (hasB c s)]) ∧ Below w.heap.size w w' := by
  have cI := Tryf.stringslite_Index_one s c
  have hge := Lib.indexByte_ge s.data.toList c
  by_cases hi : Lib.indexByte s.data.toList c = -1
  · obtain ⟨h1, h2, h3⟩ := take_of_none s.data.toList c (Lib.indexByte_none hi)
    have hb : bef c s = s := bytes_ext (by simp [bef, h1])
    have ha : aft c s = ⟨#[]⟩ := bytes_ext (by simp [aft, h2])
    rw [hb, ha, hasB, h3]
    rw [hi] at cI
    go_enter Tryf.func33, Tryf.ntmps33
    go_wp2_with (go_at_call 43; refine (cI _).mono ?_; rintro e w' ⟨rfl, rfl⟩)
    go_ret3
    exact ⟨rfl, Below.refl _ _⟩
  · obtain ⟨o, ho⟩ := Int.eq_ofNat_of_zero_le (a := Lib.indexByte s.data.toList c) (by omega)
    obtain ⟨g1, g2⟩ := Lib.indexByte_some ho
    obtain ⟨h1, h2, h3⟩ := take_of_index s.data.toList c o g1 g2
    have hlt : o < s.size := by
      have := (List.getElem?_eq_some_iff.1 g1).1
      rw [Lib.size_eq]; exact this
    have hb : bef c s = s.extract 0 o := by rw [extract_take s o, bef, h1]
    have ha : aft c s = s.extract (o + 1) s.size := by rw [extract_drop, aft, h2]
    rw [hb, ha, hasB, h3]
    rw [ho] at cI
    clear g1 g2 h1 h2 h3 hb ha hge hi ho
    have hz : (o : Int) ≤ (s.size : Int) := by omega
    have hz1 : (o : Int) + 1 ≤ (s.size : Int) := by omega
    go_enter Tryf.func33, Tryf.ntmps33
    go_wp2_with (go_at_call 43; refine (cI _).mono ?_; rintro e w' ⟨rfl, rfl⟩)
    go_quiet (fail)
    go_wp2
    go_ret3
    exact ⟨rfl, ⟨rfl, rfl, rfl, Nat.le_refl _, fun _ _ => rfl⟩⟩

set_option maxHeartbeats 1600000 in
theorem cut1 (s : ByteArray) (c : UInt8) (w : World) (hs : s.size ≤ 1000000000) :
    Calls Tryf.prog 22 #[.string s, .string ⟨#[c]⟩] w fun e w' => e = .returned (.tuple #[.string (bef c s), .string (aft c s), .bool (hasB c s)]) ∧ Below w.heap.size w w' := by
  have cI := cutLite s c w hs
  go_enter Tryf.func22, Tryf.ntmps22
  go_wp2_with (go_at_call 33; refine cI.mono ?_; rintro e w' ⟨rfl, hb⟩)
  go_ret3
  exact ⟨rfl, hb⟩

theorem bef_list (c : UInt8) (s : ByteArray) : (bef c s).data.toList = s.data.toList.takeWhile (fun b => b != c) := by simp [bef]
theorem aft_list (c : UInt8) (s : ByteArray) : (aft c s).data.toList = (s.data.toList.dropWhile (fun b => b != c)).drop 1 := by simp [aft]
theorem bef_size (c : UInt8) (s : ByteArray) : (bef c s).size ≤ s.size := by
  rw [Lib.size_eq, Lib.size_eq, bef_list]
  exact (List.takeWhile_sublist _).length_le
theorem aft_size (c : UInt8) (s : ByteArray) : (aft c s).size ≤ s.size := by
  rw [Lib.size_eq, Lib.size_eq, aft_list]
  exact (List.Sublist.trans (List.drop_sublist _ _) (List.dropWhile_sublist _)).length_le
end Go.Proofs.Qxb6606413aFmt
