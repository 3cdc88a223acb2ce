/-
  Seat b6606413aF: the law's model of a user, plain: what the count of the separators gives.
-/
import Derived.Test.Qxb6606413aFmtGram
namespace Go.Proofs.Qxb6606413aFmt
open Go.RowKit Go.Lib

/-- Ahead of position i the byte c stands n times, first at p (where it stands at all). -/
structure Fd (c : UInt8) (s : ByteArray) (i n : Nat) (p : Int) : Prop where
  cn : n = (s.data.toList.take i).count c
  ps : (p = -1 ∧ n = 0) ∨ (∃ k : Nat, p = k ∧ k < i ∧ 1 ≤ n ∧ s.data.toList[k]? = some c ∧ ∀ j, j < k → s.data.toList[j]? ≠ some c)

theorem Fd.zero (c : UInt8) (s : ByteArray) : Fd c s 0 0 (-1) := ⟨by simp, .inl ⟨rfl, rfl⟩⟩

theorem get_list (s : ByteArray) (i : Nat) (h : i < s.size) : s.data.toList[i]? = some s[i] := by
  rw [Array.getElem?_toList, Array.getElem?_eq_getElem (show i < s.data.size from h)]
  rfl

theorem count_next (c : UInt8) (s : ByteArray) (i : Nat) (h : i < s.size) : (s.data.toList.take (i + 1)).count c = (s.data.toList.take i).count c + (if s[i] = c then 1 else 0) := by
  rw [List.take_add_one, get_list s i h, List.count_append]
  simp [List.count_cons]

theorem Fd.skip {c : UInt8} {s : ByteArray} {i n : Nat} {p : Int} (f : Fd c s i n p) (h : i < s.size) (hc : s[i] ≠ c) : Fd c s (i + 1) n p := by
  refine ⟨?_, ?_⟩
  · rw [count_next c s i h, if_neg hc, ← f.cn]; rfl
  · rcases f.ps with h1 | ⟨k, h1, h2, h3⟩
    · exact .inl h1
    · exact .inr ⟨k, h1, by omega, h3⟩

theorem Fd.first {c : UInt8} {s : ByteArray} {i n : Nat} {p : Int} (f : Fd c s i n p) (h : i < s.size) (hc : s[i] = c) (hp : p < 0) : Fd c s (i + 1) (n + 1) i := by
  refine ⟨?_, ?_⟩
  · rw [count_next c s i h, if_pos hc, ← f.cn]
  · refine .inr ⟨i, rfl, by omega, by omega, by rw [get_list s i h, hc], ?_⟩
    intro j hj he
    rcases f.ps with ⟨h1, h2⟩ | ⟨k, h1, _⟩
    · have h3 := f.cn
      rw [h2] at h3
      have h4 : c ∉ s.data.toList.take i := List.count_eq_zero.1 h3.symm
      exact h4 (List.mem_of_getElem? (i := j) (by rw [List.getElem?_take, if_pos hj]; exact he))
    · omega

theorem Fd.more {c : UInt8} {s : ByteArray} {i n : Nat} {p : Int} (f : Fd c s i n p) (h : i < s.size) (hc : s[i] = c) (hp : 0 ≤ p) : Fd c s (i + 1) (n + 1) p := by
  refine ⟨?_, ?_⟩
  · rw [count_next c s i h, if_pos hc, ← f.cn]
  · rcases f.ps with ⟨h1, h2⟩ | ⟨k, h1, h2, h3, h4⟩
    · omega
    · exact .inr ⟨k, h1, by omega, by omega, h4⟩

theorem Fd.range {c : UInt8} {s : ByteArray} {i n : Nat} {p : Int} (f : Fd c s i n p) : -1 ≤ p ∧ p < i + 1 ∧ n ≤ i := by
  have h1 := f.cn
  have h2 : (s.data.toList.take i).count c ≤ (s.data.toList.take i).length := List.count_le_length
  have h3 : (s.data.toList.take i).length ≤ i := by simp [List.length_take]; omega
  rcases f.ps with ⟨h4, h5⟩ | ⟨k, h4, h5, h6⟩ <;> omega

theorem Fd.all {c : UInt8} {s : ByteArray} {i n : Nat} {p : Int} (f : Fd c s i n p) (h : s.size ≤ i) : n = cnt c s := by
  have := f.cn
  rw [List.take_of_length_le (by rw [← Lib.size_eq]; exact h)] at this
  exact this

theorem Fd.none {c : UInt8} {s : ByteArray} {i : Nat} {p : Int} (f : Fd c s i 0 p) (h : s.size ≤ i) : c ∉ s.data.toList := by
  have := f.all h
  exact List.count_eq_zero.1 this.symm

theorem Fd.some {c : UInt8} {s : ByteArray} {i n : Nat} {p : Int} (f : Fd c s i n p) (hn : 1 ≤ n) : ∃ k : Nat, p = k ∧ k < s.size ∧ s.data.toList[k]? = .some c ∧ (∀ j, j < k → s.data.toList[j]? ≠ .some c) ∧ bef c s = s.extract 0 k ∧ aft c s = s.extract (k + 1) s.size ∧ c ∈ s.data.toList := by
  rcases f.ps with ⟨h1, h2⟩ | ⟨k, h1, h2, h3, h4, h5⟩
  · omega
  · obtain ⟨e1, e2, e3⟩ := take_of_index s.data.toList c k h4 h5
    have hk := (List.getElem?_eq_some_iff.1 h4).1
    rw [← Lib.size_eq] at hk
    refine ⟨k, h1, hk, h4, h5, ?_, ?_, List.mem_of_getElem? h4⟩
    · rw [extract_take]; unfold bef; rw [e1]
    · rw [extract_drop]; unfold aft; rw [e2]

theorem mu_colon {fm : Bool} {s : ByteArray} (h : cnt 58 s ≠ 1) : puOK fm s = false := by
  cases hp : puOK fm s with
  | false => rfl
  | true => exact absurd (puOK_counts fm s hp).1 h

theorem mu_hash {fm : Bool} {s : ByteArray} (h : 1 < cnt 35 s) : puOK fm s = false := by
  cases hp : puOK fm s with
  | false => rfl
  | true =>
    rcases (puOK_counts fm s hp).2 with ⟨h1, _⟩ | ⟨h1, _⟩ <;> omega

theorem list_extract0 (s : ByteArray) (k : Nat) : (s.extract 0 k).data.toList = s.data.toList.take k := by
  rw [extract_take]

theorem mu_order {fm : Bool} {s : ByteArray} {i j n m : Nat} {p q : Int} (f : Fd 58 s i n p) (g : Fd 35 s j m q) (hn : 1 ≤ n) (hm : 1 ≤ m) (hq : q < p) : puOK fm s = false := by
  cases hp : puOK fm s with
  | false => rfl
  | true =>
    obtain ⟨h1, h2, h3⟩ := (puOK_iff fm s).1 hp
    obtain ⟨k, rfl, k1, k2, k3, k4, k5, k6⟩ := f.some hn
    obtain ⟨l, rfl, l1, l2, l3, l4, l5, l6⟩ := g.some hm
    exfalso
    have h4 := nameOK_hash h2
    rw [k4, list_extract0] at h4
    exact h4 (List.mem_of_getElem? (i := l) (by rw [List.getElem?_take, if_pos (by omega)]; exact l2))

theorem beq_star (l : List UInt8) : (l == [42]) = true ↔ l = [42] := by simp

theorem mu_one {fm : Bool} {s : ByteArray} {i j n : Nat} {p q : Int} (f : Fd 58 s i n p) (g : Fd 35 s j 0 q) (hj : s.size ≤ j) (hn : 1 ≤ n) :
    ∃ k : Nat, p = k ∧ k < s.size ∧ bef 58 s = s.extract 0 k ∧ bef 35 (aft 58 s) = s.extract (k + 1) s.size ∧ aft 35 (aft 58 s) = ⟨#[]⟩ ∧
      puOK fm s = (nameOK fm (s.extract 0 k).data.toList && ((s.extract (k + 1) s.size).data.toList == [42] || nameOK fm (s.extract (k + 1) s.size).data.toList)) := by
  obtain ⟨k, rfl, k1, k2, k3, k4, k5, k6⟩ := f.some hn
  have h35 := g.none hj
  have ha : (35 : UInt8) ∉ (aft 58 s).data.toList := by
    intro h
    have := cut_eq 58 s k6
    exact h35 (by rw [this]; simp [h])
  refine ⟨k, rfl, k1, k4, ?_, aft_no 35 _ ha, ?_⟩
  · rw [bef_no 35 _ ha, k5]
  · rw [Bool.eq_iff_iff, puOK_iff, k4, k5]
    rw [k5] at ha
    simp only [Bool.and_eq_true, Bool.or_eq_true, beq_iff_eq]
    constructor
    · rintro ⟨_, h2, ⟨_, h3⟩ | ⟨h3, _⟩⟩
      · exact ⟨h2, h3.symm⟩
      · exact absurd h3 ha
    · rintro ⟨h2, h3⟩
      exact ⟨k6, h2, .inl ⟨ha, h3.symm⟩⟩

theorem mu_two {fm : Bool} {s : ByteArray} {i j n m : Nat} {p q : Int} (f : Fd 58 s i n p) (g : Fd 35 s j m q) (hn : 1 ≤ n) (hm : 1 ≤ m) (hq : ¬ q < p) :
    ∃ k l : Nat, p = k ∧ q = l ∧ k < l ∧ l < s.size ∧ bef 58 s = s.extract 0 k ∧ bef 35 (aft 58 s) = s.extract (k + 1) l ∧ aft 35 (aft 58 s) = s.extract (l + 1) s.size ∧
      puOK fm s = (nameOK fm (s.extract 0 k).data.toList && nameOK fm (s.extract (k + 1) l).data.toList && nameOK fm (s.extract (l + 1) s.size).data.toList) := by
  obtain ⟨k, rfl, k1, k2, k3, k4, k5, k6⟩ := f.some hn
  obtain ⟨l, rfl, l1, l2, l3, l4, l5, l6⟩ := g.some hm
  have hkl : k < l := by
    have : k ≠ l := by
      rintro rfl
      rw [k2] at l2
      exact absurd (Option.some.inj l2) (by decide)
    omega
  have hal : (aft 58 s).data.toList = s.data.toList.drop (k + 1) := by rw [k5, extract_drop]
  have i1 : (aft 58 s).data.toList[l - (k + 1)]? = .some 35 := by
    rw [hal, List.getElem?_drop, show k + 1 + (l - (k + 1)) = l by omega]
    exact l2
  have i2 : ∀ x, x < l - (k + 1) → (aft 58 s).data.toList[x]? ≠ .some 35 := by
    intro x hx
    rw [hal, List.getElem?_drop]
    exact l3 _ (by omega)
  obtain ⟨e1, e2, e3⟩ := take_of_index _ 35 _ i1 i2
  have hb : bef 35 (aft 58 s) = s.extract (k + 1) l := by
    apply bytes_ext
    rw [bef_list, e1, hal, ByteArray.data_extract, Array.toList_extract, List.extract_eq_take_drop]
  have hc : aft 35 (aft 58 s) = s.extract (l + 1) s.size := by
    apply bytes_ext
    rw [aft_list, e2, hal, List.drop_drop, extract_drop, show k + 1 + (l - (k + 1) + 1) = l + 1 by omega]
  have hm35 : (35 : UInt8) ∈ (aft 58 s).data.toList := List.mem_of_getElem? i1
  refine ⟨k, l, rfl, rfl, hkl, l1, k4, hb, hc, ?_⟩
  rw [Bool.eq_iff_iff, puOK_iff, hb, hc, k4]
  simp only [Bool.and_eq_true]
  constructor
  · rintro ⟨_, h2, ⟨h3, _⟩ | ⟨_, h3, h4⟩⟩
    · exact absurd hm35 h3
    · exact ⟨⟨h2, h3⟩, h4⟩
  · rintro ⟨⟨h2, h3⟩, h4⟩
    exact ⟨k6, h2, .inr ⟨hm35, h3, h4⟩⟩

end Go.Proofs.Qxb6606413aFmt
