/-
  Seat b6609191aD: frames of the great functions.
-/
import Derived.WalkKit
import Derived.Test.Qxb6609191aDoorProg
namespace Go.Proofs.Qxb6609191aDoor
open Go.RowKit

/-- What slot i of a frame holds. -/
def sl (a : Act) (i : Nat) : Value := a.tmps.toList.getD i undef

structure Fr (a : Act) (N : Nat) : Prop where
  df : a.defers = []
  sz : a.tmps.size = N

theorem list_lit (l : List Value) : l = (List.range l.length).map fun i => l.getD i undef := by
  refine List.ext_getElem (by simp) fun i h1 h2 => ?_
  simp [h1]

set_option maxRecDepth 100000 in
theorem range129 (u : Nat → Value) : (List.range 129).map u = [u 0, u 1, u 2, u 3, u 4, u 5, u 6, u 7, u 8, u 9, u 10, u 11, u 12, u 13, u 14, u 15, u 16, u 17, u 18, u 19, u 20, u 21, u 22, u 23, u 24, u 25, u 26, u 27, u 28, u 29, u 30, u 31, u 32, u 33, u 34, u 35, u 36, u 37, u 38, u 39, u 40, u 41, u 42, u 43, u 44, u 45, u 46, u 47, u 48, u 49, u 50, u 51, u 52, u 53, u 54, u 55, u 56, u 57, u 58, u 59, u 60, u 61, u 62, u 63, u 64, u 65, u 66, u 67, u 68, u 69, u 70, u 71, u 72, u 73, u 74, u 75, u 76, u 77, u 78, u 79, u 80, u 81, u 82, u 83, u 84, u 85, u 86, u 87, u 88, u 89, u 90, u 91, u 92, u 93, u 94, u 95, u 96, u 97, u 98, u 99, u 100, u 101, u 102, u 103, u 104, u 105, u 106, u 107, u 108, u 109, u 110, u 111, u 112, u 113, u 114, u 115, u 116, u 117, u 118, u 119, u 120, u 121, u 122, u 123, u 124, u 125, u 126, u 127, u 128] := rfl

theorem frame129 (a : Act) (hf : Fr a 129) : ∃ u : Nat → Value, (∀ i, sl a i = u i) ∧ a = ⟨#[u 0, u 1, u 2, u 3, u 4, u 5, u 6, u 7, u 8, u 9, u 10, u 11, u 12, u 13, u 14, u 15, u 16, u 17, u 18, u 19, u 20, u 21, u 22, u 23, u 24, u 25, u 26, u 27, u 28, u 29, u 30, u 31, u 32, u 33, u 34, u 35, u 36, u 37, u 38, u 39, u 40, u 41, u 42, u 43, u 44, u 45, u 46, u 47, u 48, u 49, u 50, u 51, u 52, u 53, u 54, u 55, u 56, u 57, u 58, u 59, u 60, u 61, u 62, u 63, u 64, u 65, u 66, u 67, u 68, u 69, u 70, u 71, u 72, u 73, u 74, u 75, u 76, u 77, u 78, u 79, u 80, u 81, u 82, u 83, u 84, u 85, u 86, u 87, u 88, u 89, u 90, u 91, u 92, u 93, u 94, u 95, u 96, u 97, u 98, u 99, u 100, u 101, u 102, u 103, u 104, u 105, u 106, u 107, u 108, u 109, u 110, u 111, u 112, u 113, u 114, u 115, u 116, u 117, u 118, u 119, u 120, u 121, u 122, u 123, u 124, u 125, u 126, u 127, u 128], []⟩ := by
  refine ⟨fun i => sl a i, fun _ => rfl, ?_⟩
  obtain ⟨t, df⟩ := a
  have hd := hf.df
  have hs := hf.sz
  simp only at hd
  subst hd
  rw [← range129]
  have h := list_lit t.toList
  rw [show t.toList.length = 129 from by simpa using hs] at h
  have h2 : t = ((List.range 129).map fun i => t.toList.getD i undef).toArray := by
    rw [← h]
  exact congrArg (fun x => Act.mk x []) h2

set_option maxRecDepth 100000 in
theorem range67 (u : Nat → Value) : (List.range 67).map u = [u 0, u 1, u 2, u 3, u 4, u 5, u 6, u 7, u 8, u 9, u 10, u 11, u 12, u 13, u 14, u 15, u 16, u 17, u 18, u 19, u 20, u 21, u 22, u 23, u 24, u 25, u 26, u 27, u 28, u 29, u 30, u 31, u 32, u 33, u 34, u 35, u 36, u 37, u 38, u 39, u 40, u 41, u 42, u 43, u 44, u 45, u 46, u 47, u 48, u 49, u 50, u 51, u 52, u 53, u 54, u 55, u 56, u 57, u 58, u 59, u 60, u 61, u 62, u 63, u 64, u 65, u 66] := rfl

theorem frame67 (a : Act) (hf : Fr a 67) : ∃ u : Nat → Value, (∀ i, sl a i = u i) ∧ a = ⟨#[u 0, u 1, u 2, u 3, u 4, u 5, u 6, u 7, u 8, u 9, u 10, u 11, u 12, u 13, u 14, u 15, u 16, u 17, u 18, u 19, u 20, u 21, u 22, u 23, u 24, u 25, u 26, u 27, u 28, u 29, u 30, u 31, u 32, u 33, u 34, u 35, u 36, u 37, u 38, u 39, u 40, u 41, u 42, u 43, u 44, u 45, u 46, u 47, u 48, u 49, u 50, u 51, u 52, u 53, u 54, u 55, u 56, u 57, u 58, u 59, u 60, u 61, u 62, u 63, u 64, u 65, u 66], []⟩ := by
  refine ⟨fun i => sl a i, fun _ => rfl, ?_⟩
  obtain ⟨t, df⟩ := a
  have hd := hf.df
  have hs := hf.sz
  simp only at hd
  subst hd
  rw [← range67]
  have h := list_lit t.toList
  rw [show t.toList.length = 67 from by simpa using hs] at h
  have h2 : t = ((List.range 67).map fun i => t.toList.getD i undef).toArray := by
    rw [← h]
  exact congrArg (fun x => Act.mk x []) h2

set_option maxRecDepth 100000 in
theorem range79 (u : Nat → Value) : (List.range 79).map u = [u 0, u 1, u 2, u 3, u 4, u 5, u 6, u 7, u 8, u 9, u 10, u 11, u 12, u 13, u 14, u 15, u 16, u 17, u 18, u 19, u 20, u 21, u 22, u 23, u 24, u 25, u 26, u 27, u 28, u 29, u 30, u 31, u 32, u 33, u 34, u 35, u 36, u 37, u 38, u 39, u 40, u 41, u 42, u 43, u 44, u 45, u 46, u 47, u 48, u 49, u 50, u 51, u 52, u 53, u 54, u 55, u 56, u 57, u 58, u 59, u 60, u 61, u 62, u 63, u 64, u 65, u 66, u 67, u 68, u 69, u 70, u 71, u 72, u 73, u 74, u 75, u 76, u 77, u 78] := rfl

theorem frame79 (a : Act) (hf : Fr a 79) : ∃ u : Nat → Value, (∀ i, sl a i = u i) ∧ a = ⟨#[u 0, u 1, u 2, u 3, u 4, u 5, u 6, u 7, u 8, u 9, u 10, u 11, u 12, u 13, u 14, u 15, u 16, u 17, u 18, u 19, u 20, u 21, u 22, u 23, u 24, u 25, u 26, u 27, u 28, u 29, u 30, u 31, u 32, u 33, u 34, u 35, u 36, u 37, u 38, u 39, u 40, u 41, u 42, u 43, u 44, u 45, u 46, u 47, u 48, u 49, u 50, u 51, u 52, u 53, u 54, u 55, u 56, u 57, u 58, u 59, u 60, u 61, u 62, u 63, u 64, u 65, u 66, u 67, u 68, u 69, u 70, u 71, u 72, u 73, u 74, u 75, u 76, u 77, u 78], []⟩ := by
  refine ⟨fun i => sl a i, fun _ => rfl, ?_⟩
  obtain ⟨t, df⟩ := a
  have hd := hf.df
  have hs := hf.sz
  simp only at hd
  subst hd
  rw [← range79]
  have h := list_lit t.toList
  rw [show t.toList.length = 79 from by simpa using hs] at h
  have h2 : t = ((List.range 79).map fun i => t.toList.getD i undef).toArray := by
    rw [← h]
  exact congrArg (fun x => Act.mk x []) h2

set_option maxRecDepth 100000 in
theorem range41 (u : Nat → Value) : (List.range 41).map u = [u 0, u 1, u 2, u 3, u 4, u 5, u 6, u 7, u 8, u 9, u 10, u 11, u 12, u 13, u 14, u 15, u 16, u 17, u 18, u 19, u 20, u 21, u 22, u 23, u 24, u 25, u 26, u 27, u 28, u 29, u 30, u 31, u 32, u 33, u 34, u 35, u 36, u 37, u 38, u 39, u 40] := rfl

theorem frame41 (a : Act) (hf : Fr a 41) : ∃ u : Nat → Value, (∀ i, sl a i = u i) ∧ a = ⟨#[u 0, u 1, u 2, u 3, u 4, u 5, u 6, u 7, u 8, u 9, u 10, u 11, u 12, u 13, u 14, u 15, u 16, u 17, u 18, u 19, u 20, u 21, u 22, u 23, u 24, u 25, u 26, u 27, u 28, u 29, u 30, u 31, u 32, u 33, u 34, u 35, u 36, u 37, u 38, u 39, u 40], []⟩ := by
  refine ⟨fun i => sl a i, fun _ => rfl, ?_⟩
  obtain ⟨t, df⟩ := a
  have hd := hf.df
  have hs := hf.sz
  simp only at hd
  subst hd
  rw [← range41]
  have h := list_lit t.toList
  rw [show t.toList.length = 41 from by simpa using hs] at h
  have h2 : t = ((List.range 41).map fun i => t.toList.getD i undef).toArray := by
    rw [← h]
  exact congrArg (fun x => Act.mk x []) h2

set_option maxRecDepth 100000 in
theorem range39 (u : Nat → Value) : (List.range 39).map u = [u 0, u 1, u 2, u 3, u 4, u 5, u 6, u 7, u 8, u 9, u 10, u 11, u 12, u 13, u 14, u 15, u 16, u 17, u 18, u 19, u 20, u 21, u 22, u 23, u 24, u 25, u 26, u 27, u 28, u 29, u 30, u 31, u 32, u 33, u 34, u 35, u 36, u 37, u 38] := rfl

theorem frame39 (a : Act) (hf : Fr a 39) : ∃ u : Nat → Value, (∀ i, sl a i = u i) ∧ a = ⟨#[u 0, u 1, u 2, u 3, u 4, u 5, u 6, u 7, u 8, u 9, u 10, u 11, u 12, u 13, u 14, u 15, u 16, u 17, u 18, u 19, u 20, u 21, u 22, u 23, u 24, u 25, u 26, u 27, u 28, u 29, u 30, u 31, u 32, u 33, u 34, u 35, u 36, u 37, u 38], []⟩ := by
  refine ⟨fun i => sl a i, fun _ => rfl, ?_⟩
  obtain ⟨t, df⟩ := a
  have hd := hf.df
  have hs := hf.sz
  simp only at hd
  subst hd
  rw [← range39]
  have h := list_lit t.toList
  rw [show t.toList.length = 39 from by simpa using hs] at h
  have h2 : t = ((List.range 39).map fun i => t.toList.getD i undef).toArray := by
    rw [← h]
  exact congrArg (fun x => Act.mk x []) h2

end Go.Proofs.Qxb6609191aDoor
