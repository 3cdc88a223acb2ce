import Derived.Test.Qxb6606138aDoorMyers
namespace Go.Proofs.Qxb6606138aDoor
namespace My

/-! ## the longest common subsequence, by its table -/

/-- No script from the corner to (i, j) keeps more than c lines, and one keeps just c. -/
def Lc (M : Nat → Nat → Prop) (i j c : Nat) : Prop := (∃ l, Vs M l 0 0 i j ∧ kept l = c) ∧ ∀ l, Vs M l 0 0 i j → kept l ≤ c

theorem Lc_top (M : Nat → Nat → Prop) (j : Nat) : Lc M 0 j 0 := by
  refine ⟨⟨List.replicate j 43, ?_, ?_⟩, fun l h => ?_⟩
  · have := add_y (M := M) j 0 0; simpa using this
  · have h := Vs_count (add_y (M := M) j 0 0); rw [rep_cost _ _ (by decide)] at h; omega
  · have := Vs_count h; have := Vs_diag h; omega

theorem Lc_side (M : Nat → Nat → Prop) (i : Nat) : Lc M i 0 0 := by
  refine ⟨⟨List.replicate i 45, ?_, ?_⟩, fun l h => ?_⟩
  · have := add_x (M := M) i 0 0; simpa using this
  · have h := Vs_count (add_x (M := M) i 0 0); rw [rep_cost _ _ (by decide)] at h; omega
  · have := Vs_count h; have := Vs_diag h; omega

theorem Lc_le {M : Nat → Nat → Prop} {i j c : Nat} (h : Lc M i j c) : c ≤ i ∧ c ≤ j := by
  obtain ⟨⟨l, h1, h2⟩, _⟩ := h
  have := Vs_count h1; have := Vs_diag h1; omega

theorem up_y {M : Nat → Nat → Prop} {l : List Int} {x y u v : Nat} (h : Vs M l x y u (v + 1)) (hy : y ≤ v) :
    ∃ l', Vs M l' x y u v ∧ cost l' ≤ cost l + 1 := by
  have hle := Vs_le h
  have h1 := Vs_rev h (Nat.le_refl _) (Nat.le_refl _)
  rw [Nat.sub_self, Nat.sub_self] at h1
  obtain ⟨l', h2, h3⟩ := lip_y h1 (by omega)
  have h4 := Vs_unrev h2 (by omega) (by omega)
  rw [show u - (u - x) = x by omega, show v + 1 - (v + 1 - y) = y by omega] at h4
  exact ⟨_, h4, by rw [cost_reverse]; rw [cost_reverse] at h3; exact h3⟩

theorem up_x {M : Nat → Nat → Prop} {l : List Int} {x y u v : Nat} (h : Vs M l x y (u + 1) v) (hx : x ≤ u) :
    ∃ l', Vs M l' x y u v ∧ cost l' ≤ cost l + 1 := by
  have hle := Vs_le h
  have h1 := Vs_rev h (Nat.le_refl _) (Nat.le_refl _)
  rw [Nat.sub_self, Nat.sub_self] at h1
  obtain ⟨l', h2, h3⟩ := lip_x h1 (by omega)
  have h4 := Vs_unrev h2 (by omega) (by omega)
  rw [show v - (v - y) = y by omega, show u + 1 - (u + 1 - x) = x by omega] at h4
  exact ⟨_, h4, by rw [cost_reverse]; rw [cost_reverse] at h3; exact h3⟩

theorem Lc_match {M : Nat → Nat → Prop} {i j c : Nat} (hm : M i j) (h : Lc M i j c) : Lc M (i + 1) (j + 1) (c + 1) := by
  obtain ⟨⟨l, h1, h2⟩, h3⟩ := h
  refine ⟨⟨l ++ [32], ?_, ?_⟩, fun l' h' => ?_⟩
  · rw [Vs_append]; exact ⟨i, j, h1, Or.inl ⟨rfl, hm, rfl, rfl⟩⟩
  · rw [kept_append]; simp [kept]; omega
  · obtain ⟨l2, h4, h5⟩ := up_one h' (by omega) (by omega)
    have a := h3 l2 h4
    have b := Vs_count h4
    have c := Vs_count h'
    omega

theorem Lc_skip {M : Nat → Nat → Prop} {i j a b : Nat} (hm : ¬ M i j) (h1 : Lc M i (j + 1) a) (h2 : Lc M (i + 1) j b) : Lc M (i + 1) (j + 1) (if b ≤ a then a else b) := by
  have hup : ∀ l, Vs M l 0 0 (i + 1) (j + 1) → kept l ≤ a ∨ kept l ≤ b := by
    intro l h
    induction l using snoc_ind with
    | h0 => simp only [Vs] at h; omega
    | h1 t o _ =>
      rcases Vs_last h with ⟨ho, p, q, hp, hq, hmm, _⟩ | ⟨ho, p, hp, h3⟩ | ⟨ho, q, hq, h3⟩
      · rw [show p = i by omega, show q = j by omega] at hmm; exact absurd hmm hm
      · rw [show p = i by omega] at h3
        have := h1.2 t h3
        rw [kept_append]; subst ho; simp [kept]; exact Or.inl this
      · rw [show q = j by omega] at h3
        have := h2.2 t h3
        rw [kept_append]; subst ho; simp [kept]; exact Or.inr this
  split
  · obtain ⟨⟨l, h3, h4⟩, _⟩ := h1
    refine ⟨⟨l ++ [45], by rw [Vs_append]; exact ⟨_, _, h3, Or.inr (Or.inl ⟨rfl, rfl, rfl⟩)⟩, by rw [kept_append]; simp [kept]; exact h4⟩, fun l' h' => ?_⟩
    rcases hup l' h' with h | h <;> omega
  · obtain ⟨⟨l, h3, h4⟩, _⟩ := h2
    refine ⟨⟨l ++ [43], by rw [Vs_append]; exact ⟨_, _, h3, Or.inr (Or.inr ⟨rfl, rfl, rfl⟩)⟩, by rw [kept_append]; simp [kept]; exact h4⟩, fun l' h' => ?_⟩
    rcases hup l' h' with h | h <;> omega

/-- A cheapest script keeps as many lines as the table says. -/
theorem Best_kept {M : Nat → Nat → Prop} {n m c : Nat} {l : List Int} (h : Best M l 0 0 n m) (hc : Lc M n m c) : kept l = c := by
  obtain ⟨⟨l2, h1, h2⟩, h3⟩ := hc
  have a := h3 l h.1
  have b := h.2 l2 h1
  have := Vs_count h.1
  have := Vs_count h1
  omega

theorem Lc_dist {M : Nat → Nat → Prop} {n m c : Nat} (hc : Lc M n m c) : ∃ l, Vs M l 0 0 n m ∧ cost l + 2 * c = n + m := by
  obtain ⟨⟨l2, h1, h2⟩, _⟩ := hc
  have := Vs_count h1
  exact ⟨l2, h1, by omega⟩

end My
end Go.Proofs.Qxb6606138aDoor
