import Derived.Test.Qxb6606138aDoorSlide
namespace Go.Proofs.Qxb6606138aDoor
namespace My

/-- The ops as script's sorting of runs stands at i. -/
structure Cn (M : Nat → Nat → Prop) (n nF nT c : Nat) (l : List Int) (i : Nat) : Prop where
  len : l.length = n
  le : i ≤ n
  vs : Vs M l 0 0 nF nT
  kept : kept l = c
  canon : Canon false (l.take i)
  edge : Edge l i

theorem Cn.keep {M : Nat → Nat → Prop} {n nF nT c : Nat} {l : List Int} {i : Nat} (h : Cn M n nF nT c l i) (hi : i < n) (h32 : l.getD i 0 = 32) : Cn M n nF nT c l (i + 1) := by
  refine ⟨h.len, by omega, h.vs, h.kept, ?_, fun _ _ => Or.inr (by simpa using h32)⟩
  rw [take_getD l i (by rw [h.len]; exact hi), canon_append, h32]
  refine ⟨h.canon, ?_⟩
  simp [Canon]

theorem after_take {l : List Int} {i : Nat} (hi : i ≤ l.length) (h : i = 0 ∨ l.getD (i - 1) 0 = 32) : after false (l.take i) = false := by
  refine after_last ?_
  rcases h with h0 | h0
  · exact Or.inl (by rw [h0]; rfl)
  · by_cases hz0 : i = 0
    · exact Or.inl (by rw [hz0]; rfl)
    · refine Or.inr ?_
      rw [List.getLast?_eq_getElem?]
      simp only [List.length_take]
      rw [show min i l.length - 1 = i - 1 by omega, List.getElem?_take, if_pos (by omega)]
      have hg : i - 1 < l.length := by omega
      rw [List.getElem?_eq_getElem hg]
      simpa [hg] using h0

theorem sorted_getD (r : List Int) (j : Nat) (hj : j < r.length) : (sorted r).getD j 0 = if j < rems r then 45 else 43 := by
  have := rems_le r
  unfold sorted
  rw [getD_append]
  simp only [List.length_replicate]
  split
  · rw [getD_replicate _ _ _ (by assumption)]
  · rw [getD_replicate _ _ _ (by omega)]

/-- The run from i on to e. -/
def runOf (l : List Int) (i e : Nat) : List Int := (l.drop i).take (e - i)

theorem runOf_length {l : List Int} {i e : Nat} (h : e ≤ l.length) : (runOf l i e).length = e - i := by simp [runOf]; omega

theorem runOf_snoc {l : List Int} {i e : Nat} (h : i ≤ e) (he : e < l.length) : runOf l i (e + 1) = runOf l i e ++ [l.getD e 0] := by
  unfold runOf
  rw [show e + 1 - i = (e - i) + 1 by omega, take_getD _ _ (by simp; omega), getD_drop, show i + (e - i) = e by omega]

theorem Cn.sort {M : Nat → Nat → Prop} {n nF nT c : Nat} {l l3 : List Int} {i e : Nat} (h : Cn M n nF nT c l i) (hie : i < e) (hen : e ≤ n) (hrun : ∀ j, i ≤ j → j < e → l.getD j 0 ≠ 32) (hend : e = n ∨ l.getD e 0 = 32)
    (hlen : l3.length = n) (hl3 : ∀ j, j < n → l3.getD j 0 = if i ≤ j ∧ j < e then (if j - i < rems (runOf l i e) then 45 else 43) else l.getD j 0) : Cn M n nF nT c l3 e := by
  have hn := h.len
  have hrl := runOf_length (l := l) (i := i) (e := e) (by omega)
  have e1 : l = l.take i ++ runOf l i e ++ l.drop e := by
    refine ext_getD (by simp [hrl]; omega) fun j hj => ?_
    have hts : (l.take i).length = i := by simp; omega
    rw [getD_append, getD_append]
    simp only [List.length_append, hts, hrl]
    split
    · split
      · rw [getD_take _ _ _ (by assumption)]
      · unfold runOf; rw [getD_take _ _ _ (by omega), getD_drop]; congr 1; omega
    · rw [getD_drop]; congr 1; omega
  have e2 : l3 = l.take i ++ sorted (runOf l i e) ++ l.drop e := by
    refine ext_getD (by simp [sorted_length, hrl]; omega) fun j hj => ?_
    have hts : (l.take i).length = i := by simp; omega
    rw [getD_append, getD_append]
    simp only [List.length_append, hts, sorted_length, hrl]
    rw [hl3 j (by omega)]
    by_cases c1 : i ≤ j ∧ j < e
    · have a1 : j < i + (e - i) := by omega
      have a2 : ¬ j < i := by omega
      rw [if_pos c1, if_pos a1, if_neg a2, sorted_getD _ _ (by omega)]
    · rw [if_neg c1]
      by_cases c2 : j < i
      · rw [if_pos (by omega), if_pos c2, getD_take _ _ _ c2]
      · rw [if_neg (by omega), getD_drop]; congr 1; omega
  have hr : ∀ o ∈ runOf l i e, o ≠ 32 := by
    intro o ho
    obtain ⟨j, hj, rfl⟩ := List.getElem_of_mem ho
    have := hrun (i + j) (by omega) (by omega)
    intro he
    apply this
    rw [← he]
    have h1 : (runOf l i e).getD j 0 = (runOf l i e)[j] := by simp [hj]
    rw [← h1]
    unfold runOf
    rw [getD_take _ _ _ (by omega), getD_drop]
  have hvs := h.vs
  rw [e1, Vs_append] at hvs
  obtain ⟨u, v, g1, g2⟩ := hvs
  rw [Vs_append] at g1
  obtain ⟨x, y, g3, g4⟩ := g1
  have hkp := h.kept
  rw [e1, kept_append, kept_append, kept_run hr] at hkp
  have haft : after false (l.take i) = false := after_take (by omega) (h.edge (by omega) (hrun i (Nat.le_refl _) hie))
  refine ⟨hlen, hen, ?_, ?_, ?_, fun hlt hne => ?_⟩
  · rw [e2, Vs_append]; refine ⟨u, v, ?_, g2⟩; rw [Vs_append]; exact ⟨x, y, g3, Vs_sorted hr g4⟩
  · rw [e2, kept_append, kept_append, kept_sorted]; exact hkp
  · have : l3.take e = l.take i ++ sorted (runOf l i e) := by
      rw [e2, List.take_append]
      have hl2 : (l.take i ++ sorted (runOf l i e)).length = e := by simp [sorted_length, hrl]; omega
      rw [hl2, List.take_of_length_le (by omega)]
      simp
    rw [this, canon_append, haft]
    exact ⟨h.canon, canon_sorted _⟩
  · exfalso
    rcases hend with h1 | h1
    · omega
    · rw [hl3 e (by omega), if_neg (by omega)] at hne
      exact hne h1

end My
end Go.Proofs.Qxb6606138aDoor
