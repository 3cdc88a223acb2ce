/-
  Seat b6609191aD: frames of the laws.
-/
import Derived.Test.Qxb6609191aDoorFrame
namespace Go.Proofs.Qxb6609191aDoor
open Go.RowKit

set_option maxRecDepth 100000 in
theorem range81 (u : Nat → Value) : (List.range 81).map u = [u 0, u 1, u 2, u 3, u 4, u 5, u 6, u 7, u 8, u 9, u 10, u 11, u 12, u 13, u 14, u 15, u 16, u 17, u 18, u 19, u 20, u 21, u 22, u 23, u 24, u 25, u 26, u 27, u 28, u 29, u 30, u 31, u 32, u 33, u 34, u 35, u 36, u 37, u 38, u 39, u 40, u 41, u 42, u 43, u 44, u 45, u 46, u 47, u 48, u 49, u 50, u 51, u 52, u 53, u 54, u 55, u 56, u 57, u 58, u 59, u 60, u 61, u 62, u 63, u 64, u 65, u 66, u 67, u 68, u 69, u 70, u 71, u 72, u 73, u 74, u 75, u 76, u 77, u 78, u 79, u 80] := rfl

theorem frame81 (a : Act) (hf : Fr a 81) : ∃ u : Nat → Value, (∀ i, sl a i = u i) ∧ a = ⟨#[u 0, u 1, u 2, u 3, u 4, u 5, u 6, u 7, u 8, u 9, u 10, u 11, u 12, u 13, u 14, u 15, u 16, u 17, u 18, u 19, u 20, u 21, u 22, u 23, u 24, u 25, u 26, u 27, u 28, u 29, u 30, u 31, u 32, u 33, u 34, u 35, u 36, u 37, u 38, u 39, u 40, u 41, u 42, u 43, u 44, u 45, u 46, u 47, u 48, u 49, u 50, u 51, u 52, u 53, u 54, u 55, u 56, u 57, u 58, u 59, u 60, u 61, u 62, u 63, u 64, u 65, u 66, u 67, u 68, u 69, u 70, u 71, u 72, u 73, u 74, u 75, u 76, u 77, u 78, u 79, u 80], []⟩ := by
  refine ⟨fun i => sl a i, fun _ => rfl, ?_⟩
  obtain ⟨t, df⟩ := a
  have hd := hf.df
  have hs := hf.sz
  simp only at hd
  subst hd
  rw [← range81]
  have h := list_lit t.toList
  rw [show t.toList.length = 81 from by simpa using hs] at h
  have h2 : t = ((List.range 81).map fun i => t.toList.getD i undef).toArray := by
    rw [← h]
  exact congrArg (fun x => Act.mk x []) h2

set_option maxRecDepth 100000 in
theorem range88 (u : Nat → Value) : (List.range 88).map u = [u 0, u 1, u 2, u 3, u 4, u 5, u 6, u 7, u 8, u 9, u 10, u 11, u 12, u 13, u 14, u 15, u 16, u 17, u 18, u 19, u 20, u 21, u 22, u 23, u 24, u 25, u 26, u 27, u 28, u 29, u 30, u 31, u 32, u 33, u 34, u 35, u 36, u 37, u 38, u 39, u 40, u 41, u 42, u 43, u 44, u 45, u 46, u 47, u 48, u 49, u 50, u 51, u 52, u 53, u 54, u 55, u 56, u 57, u 58, u 59, u 60, u 61, u 62, u 63, u 64, u 65, u 66, u 67, u 68, u 69, u 70, u 71, u 72, u 73, u 74, u 75, u 76, u 77, u 78, u 79, u 80, u 81, u 82, u 83, u 84, u 85, u 86, u 87] := rfl

theorem frame88 (a : Act) (hf : Fr a 88) : ∃ u : Nat → Value, (∀ i, sl a i = u i) ∧ a = ⟨#[u 0, u 1, u 2, u 3, u 4, u 5, u 6, u 7, u 8, u 9, u 10, u 11, u 12, u 13, u 14, u 15, u 16, u 17, u 18, u 19, u 20, u 21, u 22, u 23, u 24, u 25, u 26, u 27, u 28, u 29, u 30, u 31, u 32, u 33, u 34, u 35, u 36, u 37, u 38, u 39, u 40, u 41, u 42, u 43, u 44, u 45, u 46, u 47, u 48, u 49, u 50, u 51, u 52, u 53, u 54, u 55, u 56, u 57, u 58, u 59, u 60, u 61, u 62, u 63, u 64, u 65, u 66, u 67, u 68, u 69, u 70, u 71, u 72, u 73, u 74, u 75, u 76, u 77, u 78, u 79, u 80, u 81, u 82, u 83, u 84, u 85, u 86, u 87], []⟩ := by
  refine ⟨fun i => sl a i, fun _ => rfl, ?_⟩
  obtain ⟨t, df⟩ := a
  have hd := hf.df
  have hs := hf.sz
  simp only at hd
  subst hd
  rw [← range88]
  have h := list_lit t.toList
  rw [show t.toList.length = 88 from by simpa using hs] at h
  have h2 : t = ((List.range 88).map fun i => t.toList.getD i undef).toArray := by
    rw [← h]
  exact congrArg (fun x => Act.mk x []) h2

set_option maxRecDepth 100000 in
theorem range90 (u : Nat → Value) : (List.range 90).map u = [u 0, u 1, u 2, u 3, u 4, u 5, u 6, u 7, u 8, u 9, u 10, u 11, u 12, u 13, u 14, u 15, u 16, u 17, u 18, u 19, u 20, u 21, u 22, u 23, u 24, u 25, u 26, u 27, u 28, u 29, u 30, u 31, u 32, u 33, u 34, u 35, u 36, u 37, u 38, u 39, u 40, u 41, u 42, u 43, u 44, u 45, u 46, u 47, u 48, u 49, u 50, u 51, u 52, u 53, u 54, u 55, u 56, u 57, u 58, u 59, u 60, u 61, u 62, u 63, u 64, u 65, u 66, u 67, u 68, u 69, u 70, u 71, u 72, u 73, u 74, u 75, u 76, u 77, u 78, u 79, u 80, u 81, u 82, u 83, u 84, u 85, u 86, u 87, u 88, u 89] := rfl

theorem frame90 (a : Act) (hf : Fr a 90) : ∃ u : Nat → Value, (∀ i, sl a i = u i) ∧ a = ⟨#[u 0, u 1, u 2, u 3, u 4, u 5, u 6, u 7, u 8, u 9, u 10, u 11, u 12, u 13, u 14, u 15, u 16, u 17, u 18, u 19, u 20, u 21, u 22, u 23, u 24, u 25, u 26, u 27, u 28, u 29, u 30, u 31, u 32, u 33, u 34, u 35, u 36, u 37, u 38, u 39, u 40, u 41, u 42, u 43, u 44, u 45, u 46, u 47, u 48, u 49, u 50, u 51, u 52, u 53, u 54, u 55, u 56, u 57, u 58, u 59, u 60, u 61, u 62, u 63, u 64, u 65, u 66, u 67, u 68, u 69, u 70, u 71, u 72, u 73, u 74, u 75, u 76, u 77, u 78, u 79, u 80, u 81, u 82, u 83, u 84, u 85, u 86, u 87, u 88, u 89], []⟩ := by
  refine ⟨fun i => sl a i, fun _ => rfl, ?_⟩
  obtain ⟨t, df⟩ := a
  have hd := hf.df
  have hs := hf.sz
  simp only at hd
  subst hd
  rw [← range90]
  have h := list_lit t.toList
  rw [show t.toList.length = 90 from by simpa using hs] at h
  have h2 : t = ((List.range 90).map fun i => t.toList.getD i undef).toArray := by
    rw [← h]
  exact congrArg (fun x => Act.mk x []) h2

end Go.Proofs.Qxb6609191aDoor
