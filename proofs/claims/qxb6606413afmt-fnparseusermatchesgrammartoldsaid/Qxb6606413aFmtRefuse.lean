/-
  Seat b6606413aF: the law's own sets of refused characters are the library's.
-/
import Derived.Test.Qxb6606413aFmtPlain
namespace Go.Proofs.Qxb6606413aFmt
open Go.Lib

/-- The law's set Cf. -/
def cfP (r : Int) : Prop :=
  r = 173 ∨ (1536 ≤ r ∧ r ≤ 1541) ∨ r = 1564 ∨ r = 1757 ∨ r = 1807 ∨ r = 2192 ∨ r = 2193 ∨ r = 2274 ∨ r = 6158 ∨ (8203 ≤ r ∧ r ≤ 8207) ∨ (8234 ≤ r ∧ r ≤ 8238) ∨ (8288 ≤ r ∧ r ≤ 8292) ∨ (8294 ≤ r ∧ r ≤ 8303) ∨ r = 65279 ∨ (65529 ≤ r ∧ r ≤ 65531) ∨
  r = 69821 ∨ r = 69837 ∨ (78896 ≤ r ∧ r ≤ 78911) ∨ (113824 ≤ r ∧ r ≤ 113827) ∨ (119155 ≤ r ∧ r ≤ 119162) ∨ r = 917505 ∨ (917536 ≤ r ∧ r ≤ 917631)

theorem r16_0 : cfTab.r16.getD 0 (0, 0, 0) = (173, 1536, 1363) := rfl
theorem r16_1 : cfTab.r16.getD 1 (0, 0, 0) = (1537, 1541, 1) := rfl
theorem r16_2 : cfTab.r16.getD 2 (0, 0, 0) = (1564, 1757, 193) := rfl
theorem r16_3 : cfTab.r16.getD 3 (0, 0, 0) = (1807, 2192, 385) := rfl
theorem r16_4 : cfTab.r16.getD 4 (0, 0, 0) = (2193, 2274, 81) := rfl
theorem r16_5 : cfTab.r16.getD 5 (0, 0, 0) = (6158, 8203, 2045) := rfl
theorem r16_6 : cfTab.r16.getD 6 (0, 0, 0) = (8204, 8207, 1) := rfl
theorem r16_7 : cfTab.r16.getD 7 (0, 0, 0) = (8234, 8238, 1) := rfl
theorem r16_8 : cfTab.r16.getD 8 (0, 0, 0) = (8288, 8292, 1) := rfl
theorem r16_9 : cfTab.r16.getD 9 (0, 0, 0) = (8294, 8303, 1) := rfl
theorem r16_10 : cfTab.r16.getD 10 (0, 0, 0) = (65279, 65529, 250) := rfl
theorem r16_11 : cfTab.r16.getD 11 (0, 0, 0) = (65530, 65531, 1) := rfl
theorem r32_0 : cfTab.r32.getD 0 (0, 0, 0) = (69821, 69837, 16) := rfl
theorem r32_1 : cfTab.r32.getD 1 (0, 0, 0) = (78896, 78911, 1) := rfl
theorem r32_2 : cfTab.r32.getD 2 (0, 0, 0) = (113824, 113827, 1) := rfl
theorem r32_3 : cfTab.r32.getD 3 (0, 0, 0) = (119155, 119162, 1) := rfl
theorem r32_4 : cfTab.r32.getD 4 (0, 0, 0) = (917505, 917536, 31) := rfl
theorem r32_5 : cfTab.r32.getD 5 (0, 0, 0) = (917537, 917631, 1) := rfl
theorem r16_size : cfTab.r16.size = 12 := rfl
theorem r32_size : cfTab.r32.size = 6 := rfl

/-- One step of the search. -/
theorem lin_step (T : Array Rg) (n f i : Nat) (lo hi st : Nat) (h : i < T.size) (hg : T.getD i (0, 0, 0) = (lo, hi, st)) : linGo T n (f + 1) i = if n < lo then false else if n ≤ hi then (st == 1 || (n - lo) % st == 0) else linGo T n f (i + 1) := by
  rw [linGo, if_pos h, hg]
  rfl
theorem lin_end (T : Array Rg) (n f i : Nat) (h : ¬ i < T.size) : linGo T n (f + 1) i = false := by
  rw [linGo, if_neg h]

theorem cf16 (n : Nat) (h1 : n ≤ 65531) : linGo cfTab.r16 n 13 0 = true ↔ cfP n := by
  unfold cfP
  rw [lin_step cfTab.r16 n 12 0 173 1536 1363 (by rw [r16_size]; omega) r16_0]
  by_cases a0 : n < 173
  · rw [if_pos a0]
    exact ⟨fun h => absurd h (by decide), fun h => by omega⟩
  rw [if_neg a0]
  by_cases b0 : n ≤ 1536
  · rw [if_pos b0]
    simp only [Bool.or_eq_true, beq_iff_eq]
    omega
  rw [if_neg b0]
  rw [lin_step cfTab.r16 n 11 1 1537 1541 1 (by rw [r16_size]; omega) r16_1]
  by_cases a1 : n < 1537
  · rw [if_pos a1]
    exact ⟨fun h => absurd h (by decide), fun h => by omega⟩
  rw [if_neg a1]
  by_cases b1 : n ≤ 1541
  · rw [if_pos b1]
    exact ⟨fun _ => by omega, fun _ => rfl⟩
  rw [if_neg b1]
  rw [lin_step cfTab.r16 n 10 2 1564 1757 193 (by rw [r16_size]; omega) r16_2]
  by_cases a2 : n < 1564
  · rw [if_pos a2]
    exact ⟨fun h => absurd h (by decide), fun h => by omega⟩
  rw [if_neg a2]
  by_cases b2 : n ≤ 1757
  · rw [if_pos b2]
    simp only [Bool.or_eq_true, beq_iff_eq]
    omega
  rw [if_neg b2]
  rw [lin_step cfTab.r16 n 9 3 1807 2192 385 (by rw [r16_size]; omega) r16_3]
  by_cases a3 : n < 1807
  · rw [if_pos a3]
    exact ⟨fun h => absurd h (by decide), fun h => by omega⟩
  rw [if_neg a3]
  by_cases b3 : n ≤ 2192
  · rw [if_pos b3]
    simp only [Bool.or_eq_true, beq_iff_eq]
    omega
  rw [if_neg b3]
  rw [lin_step cfTab.r16 n 8 4 2193 2274 81 (by rw [r16_size]; omega) r16_4]
  by_cases a4 : n < 2193
  · rw [if_pos a4]
    exact ⟨fun h => absurd h (by decide), fun h => by omega⟩
  rw [if_neg a4]
  by_cases b4 : n ≤ 2274
  · rw [if_pos b4]
    simp only [Bool.or_eq_true, beq_iff_eq]
    omega
  rw [if_neg b4]
  rw [lin_step cfTab.r16 n 7 5 6158 8203 2045 (by rw [r16_size]; omega) r16_5]
  by_cases a5 : n < 6158
  · rw [if_pos a5]
    exact ⟨fun h => absurd h (by decide), fun h => by omega⟩
  rw [if_neg a5]
  by_cases b5 : n ≤ 8203
  · rw [if_pos b5]
    simp only [Bool.or_eq_true, beq_iff_eq]
    omega
  rw [if_neg b5]
  rw [lin_step cfTab.r16 n 6 6 8204 8207 1 (by rw [r16_size]; omega) r16_6]
  by_cases a6 : n < 8204
  · rw [if_pos a6]
    exact ⟨fun h => absurd h (by decide), fun h => by omega⟩
  rw [if_neg a6]
  by_cases b6 : n ≤ 8207
  · rw [if_pos b6]
    exact ⟨fun _ => by omega, fun _ => rfl⟩
  rw [if_neg b6]
  rw [lin_step cfTab.r16 n 5 7 8234 8238 1 (by rw [r16_size]; omega) r16_7]
  by_cases a7 : n < 8234
  · rw [if_pos a7]
    exact ⟨fun h => absurd h (by decide), fun h => by omega⟩
  rw [if_neg a7]
  by_cases b7 : n ≤ 8238
  · rw [if_pos b7]
    exact ⟨fun _ => by omega, fun _ => rfl⟩
  rw [if_neg b7]
  rw [lin_step cfTab.r16 n 4 8 8288 8292 1 (by rw [r16_size]; omega) r16_8]
  by_cases a8 : n < 8288
  · rw [if_pos a8]
    exact ⟨fun h => absurd h (by decide), fun h => by omega⟩
  rw [if_neg a8]
  by_cases b8 : n ≤ 8292
  · rw [if_pos b8]
    exact ⟨fun _ => by omega, fun _ => rfl⟩
  rw [if_neg b8]
  rw [lin_step cfTab.r16 n 3 9 8294 8303 1 (by rw [r16_size]; omega) r16_9]
  by_cases a9 : n < 8294
  · rw [if_pos a9]
    exact ⟨fun h => absurd h (by decide), fun h => by omega⟩
  rw [if_neg a9]
  by_cases b9 : n ≤ 8303
  · rw [if_pos b9]
    exact ⟨fun _ => by omega, fun _ => rfl⟩
  rw [if_neg b9]
  rw [lin_step cfTab.r16 n 2 10 65279 65529 250 (by rw [r16_size]; omega) r16_10]
  by_cases a10 : n < 65279
  · rw [if_pos a10]
    exact ⟨fun h => absurd h (by decide), fun h => by omega⟩
  rw [if_neg a10]
  by_cases b10 : n ≤ 65529
  · rw [if_pos b10]
    simp only [Bool.or_eq_true, beq_iff_eq]
    omega
  rw [if_neg b10]
  rw [lin_step cfTab.r16 n 1 11 65530 65531 1 (by rw [r16_size]; omega) r16_11]
  by_cases a11 : n < 65530
  · rw [if_pos a11]
    exact ⟨fun h => absurd h (by decide), fun h => by omega⟩
  rw [if_neg a11]
  by_cases b11 : n ≤ 65531
  · rw [if_pos b11]
    exact ⟨fun _ => by omega, fun _ => rfl⟩
  rw [if_neg b11]
  rw [lin_end cfTab.r16 n 0 12 (by rw [r16_size]; omega)]
  exact ⟨fun h => absurd h (by decide), fun h => by omega⟩

theorem cf32 (n : Nat) (h1 : 69821 ≤ n) : linGo cfTab.r32 n 7 0 = true ↔ cfP n := by
  unfold cfP
  rw [lin_step cfTab.r32 n 6 0 69821 69837 16 (by rw [r32_size]; omega) r32_0]
  by_cases a0 : n < 69821
  · rw [if_pos a0]
    exact ⟨fun h => absurd h (by decide), fun h => by omega⟩
  rw [if_neg a0]
  by_cases b0 : n ≤ 69837
  · rw [if_pos b0]
    simp only [Bool.or_eq_true, beq_iff_eq]
    omega
  rw [if_neg b0]
  rw [lin_step cfTab.r32 n 5 1 78896 78911 1 (by rw [r32_size]; omega) r32_1]
  by_cases a1 : n < 78896
  · rw [if_pos a1]
    exact ⟨fun h => absurd h (by decide), fun h => by omega⟩
  rw [if_neg a1]
  by_cases b1 : n ≤ 78911
  · rw [if_pos b1]
    exact ⟨fun _ => by omega, fun _ => rfl⟩
  rw [if_neg b1]
  rw [lin_step cfTab.r32 n 4 2 113824 113827 1 (by rw [r32_size]; omega) r32_2]
  by_cases a2 : n < 113824
  · rw [if_pos a2]
    exact ⟨fun h => absurd h (by decide), fun h => by omega⟩
  rw [if_neg a2]
  by_cases b2 : n ≤ 113827
  · rw [if_pos b2]
    exact ⟨fun _ => by omega, fun _ => rfl⟩
  rw [if_neg b2]
  rw [lin_step cfTab.r32 n 3 3 119155 119162 1 (by rw [r32_size]; omega) r32_3]
  by_cases a3 : n < 119155
  · rw [if_pos a3]
    exact ⟨fun h => absurd h (by decide), fun h => by omega⟩
  rw [if_neg a3]
  by_cases b3 : n ≤ 119162
  · rw [if_pos b3]
    exact ⟨fun _ => by omega, fun _ => rfl⟩
  rw [if_neg b3]
  rw [lin_step cfTab.r32 n 2 4 917505 917536 31 (by rw [r32_size]; omega) r32_4]
  by_cases a4 : n < 917505
  · rw [if_pos a4]
    exact ⟨fun h => absurd h (by decide), fun h => by omega⟩
  rw [if_neg a4]
  by_cases b4 : n ≤ 917536
  · rw [if_pos b4]
    simp only [Bool.or_eq_true, beq_iff_eq]
    omega
  rw [if_neg b4]
  rw [lin_step cfTab.r32 n 1 5 917537 917631 1 (by rw [r32_size]; omega) r32_5]
  by_cases a5 : n < 917537
  · rw [if_pos a5]
    exact ⟨fun h => absurd h (by decide), fun h => by omega⟩
  rw [if_neg a5]
  by_cases b5 : n ≤ 917631
  · rw [if_pos b5]
    exact ⟨fun _ => by omega, fun _ => rfl⟩
  rw [if_neg b5]
  rw [lin_end cfTab.r32 n 0 6 (by rw [r32_size]; omega)]
  exact ⟨fun h => absurd h (by decide), fun h => by omega⟩

theorem cf_eq (n : Nat) (hn : n ≤ 1114111) : isGo cfTab (n : Int) = true ↔ cfP n := by
  have hu : u32Of (n : Int) = n := by
    unfold u32Of
    omega
  have e16 : (cfTab.r16.getD (cfTab.r16.size - 1) (0, 0, 0)).2.1 = 65531 := rfl
  have e32 : (cfTab.r32.getD 0 (0, 0, 0)).1 = 69821 := rfl
  have s16 : cfTab.r16.size = 12 := rfl
  have s32 : cfTab.r32.size = 6 := rfl
  unfold isGo
  rw [hu, e16, e32]
  by_cases h1 : n ≤ 65531
  · rw [if_pos ⟨by rw [s16]; omega, h1⟩]
    have hm : n % 65536 = n := by omega
    rw [hm]
    unfold is16Go
    rw [if_pos (Or.inl (by rw [s16]; omega)), s16]
    exact cf16 n h1
  · rw [if_neg (fun h => h1 h.2)]
    by_cases h2 : 69821 ≤ n
    · rw [if_pos ⟨by rw [s32]; omega, by omega⟩]
      unfold is32Go
      rw [if_pos (by rw [s32]; omega), s32]
      exact cf32 n h2
    · rw [if_neg (fun h => h2 (by have := h.2; omega))]
      unfold cfP
      simp only [Bool.false_eq_true, false_iff]
      omega

set_option maxRecDepth 100000 in
theorem ctl_all : ∀ c : Fin 256, propBit (c.val : Int) 1 = decide (c.val < 32 ∨ (127 ≤ c.val ∧ c.val ≤ 159)) := by decide +kernel

theorem ctl_eq (n : Nat) : isControlU (n : Int) = decide ((n : Int) < 32 ∨ (127 ≤ (n : Int) ∧ (n : Int) ≤ 159)) := by
  unfold isControlU latin1
  by_cases h : n ≤ 255
  · rw [if_pos (by simp; omega)]
    have := ctl_all ⟨n, by omega⟩
    rw [this]
    congr 1
    simp only [eq_iff_iff]
    omega
  · rw [if_neg (by simp; omega)]
    symm
    simp only [decide_eq_false_iff_not]
    omega

end Go.Proofs.Qxb6606413aFmt
