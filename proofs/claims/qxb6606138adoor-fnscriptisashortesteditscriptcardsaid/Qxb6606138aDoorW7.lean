import Derived.Test.Qxb6606138aDoorMem
import Derived.Test.Qxb6606138aDoorRows
import Derived.Deep.LoopGhost
namespace Go.Proofs.Qxb6606138aDoor
open Go.RowKit

/-- What is left of a string behind its leading blanks. -/
def left (s : ByteArray) : List UInt8 := s.data.toList.dropWhile (· == 32)

theorem left_le (s : ByteArray) : (left s).length ≤ s.size := by
  have := (List.dropWhile_suffix (l := s.data.toList) (· == 32)).length_le
  simpa [left] using this

theorem left_step (t : ByteArray) (h : 0 < t.size) (h0 : t[0] = 32) : left (t.extract 1 t.size) = left t := by
  obtain ⟨⟨l⟩⟩ := t
  cases l with
  | nil => exact absurd h (by decide)
  | cons a l =>
    have : a = 32 := h0
    subst this
    have hz : ByteArray.size ⟨⟨(32 : UInt8) :: l⟩⟩ = l.length + 1 := rfl
    unfold left
    simp [hz]

theorem left_stop (t : ByteArray) (h : 0 < t.size) (h0 : t[0] ≠ 32) : left t = t.data.toList := by
  obtain ⟨⟨l⟩⟩ := t
  cases l with
  | nil => exact absurd h (by decide)
  | cons a l =>
    have : a ≠ 32 := h0
    unfold left
    simp [this]

theorem left_empty (t : ByteArray) (h : t.size = 0) : left t = t.data.toList := by
  obtain ⟨⟨l⟩⟩ := t
  cases l with
  | nil => rfl
  | cons a l => exact absurd h (Nat.succ_ne_zero l.length)

set_option maxHeartbeats 400000 in
theorem trimByte_any (s : ByteArray) (w : World) :
    Calls Tryd.prog 31 #[.string s, .int .u8 32] w fun e w' => (∃ t : ByteArray, e = .returned (.string t) ∧ t.data.toList = left s) ∧ w' = w := by
  go_enter Tryd.func31, Tryd.ntmps31
  go_wp2
  go_loopg [0] s.size (fun g v wr => (∃ t : ByteArray, v = .string t ∧ g = t.size ∧ t.size ≤ s.size ∧ left t = left s) ∧ wr = w)
  case atStart => exact ⟨⟨s, rfl, rfl, Nat.le_refl _, rfl⟩, rfl⟩
  case round =>
    obtain ⟨⟨t, rfl, rfl, hle, hl⟩, rfl⟩ := hrel
    have Hl := hide hl
    clear hl
    by_cases h0 : 0 < t.size
    · by_cases h1 : t[0] = 32
      · have b1 : ((t[0].toNat : Int) == 32) = true := by rw [h1]; rfl
        have hz : (t.extract 1 t.size).size = t.size - 1 := by simp
        have Hs := hide (left_step t h0 h1)
        have Hz := hide hz
        clear hz h1
        go_wp2
        go_roundg (t.size - 1)
        case measure => omega
        case rel => exact ⟨⟨_, rfl, Hz.out.symm, by rw [Hz.out]; omega, by rw [Hs.out]; exact Hl.out⟩, rfl⟩
      · have b1 : ((t[0].toNat : Int) == 32) = false := by
          simp only [beq_eq_false_iff_ne]; intro e; apply h1; apply UInt8.toNat_inj.1; show _ = 32; omega
        have Hs := hide (left_stop t h0 h1)
        clear h1
        go_wp2
        go_ret
        exact ⟨⟨t, rfl, by rw [← Hs.out]; exact Hl.out⟩, rfl⟩
    · have Hs := hide (left_empty t (by omega))
      go_wp2
      go_ret
      exact ⟨⟨t, rfl, by rw [← Hs.out]; exact Hl.out⟩, rfl⟩

theorem size_of_list {t : ByteArray} {l : List UInt8} (h : t.data.toList = l) : t.size = l.length := by
  rw [← h]; simp

theorem isEmpty_size (s : ByteArray) : s.toList.isEmpty = decide (s.size = 0) := by
  rw [Go.ByteArray.toList_eq]
  obtain ⟨⟨l⟩⟩ := s
  cases l with
  | nil => rfl
  | cons a l => rfl

set_option maxRecDepth 100000 in
set_option maxHeartbeats 400000 in
theorem trimLeft_any (s : ByteArray) (w : World) :
    Calls Tryd.prog 28 #[.string s, .string ⟨#[32]⟩] w fun e w' => (∃ t : ByteArray, e = .returned (.string t) ∧ t.data.toList = left s) ∧ w' = w := by
  by_cases h0 : s.size = 0
  · have b1 : (s.toList.isEmpty) = true := by rw [isEmpty_size]; simpa using h0
    have Hs := hide (left_empty s h0)
    go_enter Tryd.func28, Tryd.ntmps28
    go_wp2_with fail
    go_ret
    exact ⟨⟨s, rfl, Hs.out.symm⟩, rfl⟩
  · have b1 : (s.toList.isEmpty) = false := by rw [isEmpty_size]; simpa using h0
    go_enter Tryd.func28, Tryd.ntmps28
    go_wp2_with fail
    refine (show Calls Tryd.prog 31 #[.string s, .int .u8 (((⟨#[32]⟩ : ByteArray)[0]).toNat : Int)] w _ from trimByte_any s w).mono ?_
    rintro e w' ⟨⟨t, rfl, ht⟩, rfl⟩
    have Ht := hide ht
    clear ht
    go_wp2_with fail
    go_ret
    exact ⟨⟨t, rfl, Ht.out⟩, rfl⟩

/-- 'indentation': how many blanks a line opens with. -/
def indent (s : ByteArray) : Int := (s.size : Int) - (left s).length

theorem indent_bd (s : ByteArray) : 0 ≤ indent s ∧ indent s ≤ s.size := by have := left_le s; unfold indent; omega

set_option maxRecDepth 100000 in
set_option maxHeartbeats 400000 in
theorem indentation_any (s : ByteArray) (hs : (s.size : Int) ≤ 140737488355328) (w : World) :
    Calls Tryd.prog 26 #[.string s] w fun e w' => e = .returned (.int .i64 (indent s)) ∧ w' = w := by
  go_enter Tryd.func26, Tryd.ntmps26
  go_wp2_with fail
  refine (trimLeft_any s w).mono ?_
  rintro e w' ⟨⟨t, rfl, ht⟩, rfl⟩
  have hz := size_of_list ht
  have hl := left_le s
  have Hz : Hid ((s.size : Int) - t.size = indent s) := by show (s.size : Int) - t.size = indent s; unfold indent; omega
  have hz2 : t.size ≤ s.size := by omega
  clear ht hz hl
  go_wp2_with fail
  go_ret
  exact ⟨congrArg (fun z : Int => Ending.returned (.int .i64 z)) Hz.out, rfl⟩

end Go.Proofs.Qxb6606138aDoor
