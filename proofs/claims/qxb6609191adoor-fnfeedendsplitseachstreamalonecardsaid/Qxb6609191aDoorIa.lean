/-
  Seat b6609191aD: for bytes.IndexAny at "\r\n": the plain facts, the entries of internal/bytealg.
-/
import Derived.Test.Qxb6609191aDoorSt
import Derived.Lib.IndexEntry
import Derived.Lib.Bytealg
import Derived.Lib.IndexAny
import Derived.Lib.MapLaws
import Derived.Lib.ValidLaws
namespace Go.Proofs.Qxb6609191aDoor
open Go.RowKit Go.Lib

theorem ext37 (c : UInt8) (w : World) : (callFunc 37 #[.string ⟨#[13, 10]⟩, .int .u8 (c.toNat : Int)]).run Tryd.prog w = .ok (.value (.int .i64 (if isE c then (if c = 13 then 0 else 1) else -1))) w := by
  rw [run_callFunc_extern Tryd.func37 (by kernel_rfl) (by kernel_rfl) (by kernel_rfl) (e := Extern.BytealgIndexByte.indexByte) (by kernel_rfl), Lib.run_indexByteString]
  have key : Lib.indexByte [13, 10] c = if isE c then (if c = 13 then 0 else 1) else -1 := by
    by_cases h13 : c = 13
    · subst h13; decide
    · by_cases h10 : c = 10
      · subst h10; decide
      · have h13' : ¬ (13 : UInt8) = c := fun h => h13 h.symm
        have h10' : ¬ (10 : UInt8) = c := fun h => h10 h.symm
        simp [Lib.indexByte, isE, h13, h10, h13', h10']
  simp [key]

theorem ext37_yes (c : UInt8) (w : World) (h : isE c = true) : ∃ k : Int, 0 ≤ k ∧ (callFunc 37 #[.string ⟨#[13, 10]⟩, .int .u8 (c.toNat : Int)]).run Tryd.prog w = .ok (.value (.int .i64 k)) w := by
  refine ⟨_, ?_, ext37 c w⟩
  rw [h, if_pos rfl]
  split <;> decide

theorem ext37_no (c : UInt8) (w : World) (h : isE c = false) : (callFunc 37 #[.string ⟨#[13, 10]⟩, .int .u8 (c.toNat : Int)]).run Tryd.prog w = .ok (.value (.int .i64 (-1))) w := by
  rw [ext37, h]
  rfl

theorem ext43 (t : ByteArray) (w : World) (m : Int) (hm : w.cell? ⟨0, 0, none⟩ = some (.int .i64 m)) (h2 : 3 ≤ t.size) (hb : (t.size : Int) ≤ m) : (callFunc 43 #[.string ⟨#[13, 10]⟩, .string t]).run Tryd.prog w = .ok (.value (.int .i64 (-1))) w := by
  rw [run_callFunc_extern Tryd.func43 (by kernel_rfl) (by kernel_rfl) (by kernel_rfl) (e := Extern.BytealgIndex.index) (by kernel_rfl),
    Lib.run_indexString ⟨#[13, 10]⟩ t w 0 m (by kernel_rfl) hm (by omega) hb (by decide)]
  have key : Lib.index (⟨#[13, 10]⟩ : ByteArray).data.toList t.data.toList = -1 := by
    refine index_none fun j _ => ?_
    cases ho : occAt (⟨#[13, 10]⟩ : ByteArray).data.toList t.data.toList j with
    | false => rfl
    | true =>
      rcases occAt_room ho with h | h
      · rw [← size_eq t] at h
        simp at h
        omega
      · have : t.size = 0 := by rw [size_eq, h]; rfl
        omega
  rw [key]
  simp

theorem enc_ne (r : Int) (h : 128 ≤ r) : ((⟨#[13, 10]⟩ : ByteArray).toList == (Utf8.encode r).toList) = false := by
  rw [beq_eq_false_iff_ne, Go.ByteArray.toList_eq, Go.ByteArray.toList_eq]
  intro he
  have h2 : (Utf8.encode r).data.toList.getD 0 0 = 13 := by rw [← he]; rfl
  have h3 : 128 ≤ ((Utf8.encode r).data.toList.getD 0 0).toNat := by
    unfold Utf8.encode
    by_cases hv : Utf8.valid r = true
    · have hr : r ≤ 1114111 := by simp [Utf8.valid] at hv; omega
      have hc : ¬ r.toNat < 128 := by omega
      simp only [hv, if_true, hc, if_false]
      split
      · show 128 ≤ (UInt8.ofNat (192 + r.toNat / 64)).toNat
        simp; omega
      · split
        · show 128 ≤ (UInt8.ofNat (224 + r.toNat / 4096)).toNat
          simp; omega
        · show 128 ≤ (UInt8.ofNat (240 + r.toNat / 262144)).toNat
          simp; omega
    · simp only [hv, Bool.false_eq_true, if_false]
      decide
  rw [h2] at h3
  exact absurd h3 (by decide)

theorem enc_size3 (r : Int) (h : 2048 ≤ r) (h2 : r < 65536) (h3 : r < 55296 ∨ 57344 ≤ r) : (Utf8.encode r).size = 3 := by
  have hv : Utf8.valid r = true := by simp [Utf8.valid]; omega
  unfold Utf8.encode
  simp only [hv, if_true]
  rw [if_neg (by omega), if_neg (by omega), if_pos (by omega)]
  rfl

theorem enc_size4 (r : Int) (h : 65536 ≤ r) (h2 : r ≤ 1114111) : (Utf8.encode r).size = 4 := by
  have hv : Utf8.valid r = true := by simp [Utf8.valid]; omega
  unfold Utf8.encode
  simp only [hv, if_true]
  rw [if_neg (by omega), if_neg (by omega), if_neg (by omega)]
  rfl

theorem isE_high (b : UInt8) (h : 128 ≤ b.toNat) : isE b = false := by
  simp only [isE, Bool.or_eq_false_iff, beq_eq_false_iff_ne]
  constructor
  · rintro rfl; exact absurd h (by decide)
  · rintro rfl; exact absurd h (by decide)

/-- What is decoded at a byte that is no ASCII. -/
theorem dec_facts (l : List UInt8) (hne : l ≠ []) (h0 : 128 ≤ (l.getD 0 0).toNat) :
    1 ≤ (decodeL l).2 ∧ (decodeL l).2 ≤ l.length ∧ (∀ j, j < (decodeL l).2 → isE (l.getD j 0) = false) ∧ 128 ≤ (decodeL l).1 ∧ (decodeL l).1 ≤ 1114111 ∧
    ((decodeL l).1 = 65533 ∨ ((decodeL l).2 = 2) ∨ ((decodeL l).2 = 3 ∧ 2048 ≤ (decodeL l).1 ∧ (decodeL l).1 < 65536 ∧ ((decodeL l).1 < 55296 ∨ 57344 ≤ (decodeL l).1)) ∨ ((decodeL l).2 = 4 ∧ 65536 ≤ (decodeL l).1)) := by
  have hl : 0 < l.length := List.length_pos_iff.2 hne
  have l0 := (l.getD 0 0).toNat_lt
  rw [decodeL_N]
  have l1 := (l.getD 1 0).toNat_lt
  rcases decodeN_shape l.length (l.getD 0 0).toNat (l.getD 1 0).toNat (l.getD 2 0).toNat (l.getD 3 0).toNat with ⟨c, e⟩ | ⟨c1, c2, c3, cv, e⟩ | ⟨c1, c2, c3, c4, cv, cs, e⟩ | ⟨c1, c2, c3, c4, c5, cv, cw, e⟩ | e
  · omega
  · rw [e]
    refine ⟨by dsimp only; omega, by dsimp only; omega, fun j hj => isE_high _ ?_, by dsimp only; omega, by dsimp only; omega, .inr (.inl rfl)⟩
    have : j = 0 ∨ j = 1 := by dsimp only at hj; omega
    rcases this with rfl | rfl <;> omega
  · rw [e]
    refine ⟨by dsimp only; omega, by dsimp only; omega, fun j hj => isE_high _ ?_, by dsimp only; omega, by dsimp only; omega, .inr (.inr (.inl ⟨rfl, by dsimp only; omega, by dsimp only; omega, by dsimp only; omega⟩))⟩
    have : j = 0 ∨ j = 1 ∨ j = 2 := by dsimp only at hj; omega
    rcases this with rfl | rfl | rfl <;> omega
  · rw [e]
    refine ⟨by dsimp only; omega, by dsimp only; omega, fun j hj => isE_high _ ?_, by dsimp only; omega, by dsimp only; omega, .inr (.inr (.inr ⟨rfl, by dsimp only; omega⟩))⟩
    have : j = 0 ∨ j = 1 ∨ j = 2 ∨ j = 3 := by dsimp only at hj; omega
    rcases this with rfl | rfl | rfl | rfl <;> omega
  · rw [e]
    refine ⟨by decide, hl, fun j hj => isE_high _ ?_, by decide, by decide, .inl rfl⟩
    have : j = 0 := by dsimp only at hj; omega
    subst this
    exact h0

/-- The first ending's place, or -1. -/
def firstE (p : List UInt8) : Int := Lib.indexAny p [13, 10]

/-- No ending ahead of place i. -/
def Before (p : List UInt8) (i : Nat) : Prop := ∀ j, j < i → isE (p.getD j 0) = false

theorem contains_isE (b : UInt8) : ([13, 10] : List UInt8).contains b = isE b := by
  simp [isE]
  rfl

theorem firstE_hit {p : List UInt8} {i : Nat} (hi : i < p.length) (hb : Before p i) (he : isE (p.getD i 0) = true) : firstE p = i := by
  refine indexAny_hit (x := p.getD i 0) (fun j b hj hbj => ?_) (by simp [List.getD_eq_getElem?_getD, hi]) (by rw [contains_isE]; exact he)
  rw [contains_isE]
  have := hb j hj
  rw [List.getD_eq_getElem?_getD, hbj] at this
  exact this

theorem firstE_none {p : List UInt8} (hb : Before p p.length) : firstE p = -1 := by
  refine indexAny_none fun j b hj hbj => ?_
  rw [contains_isE]
  have := hb j hj
  rw [List.getD_eq_getElem?_getD, hbj] at this
  exact this

theorem Before.zero (p : List UInt8) : Before p 0 := fun _ h => by omega
theorem Before.succ {p : List UInt8} {i : Nat} (h : Before p i) (he : isE (p.getD i 0) = false) : Before p (i + 1) := fun j hj => by
  by_cases e : j = i
  · subst e; exact he
  · exact h j (by omega)
theorem Before.add {p : List UInt8} {i k : Nat} (h : Before p i) (he : ∀ j, j < k → isE ((p.drop i).getD j 0) = false) : Before p (i + k) := fun j hj => by
  by_cases e : j < i
  · exact h j e
  · have := he (j - i) (by omega)
    simp only [List.getD_eq_getElem?_getD, List.getElem?_drop] at this ⊢
    rw [show i + (j - i) = j by omega] at this
    exact this

end Go.Proofs.Qxb6609191aDoor
