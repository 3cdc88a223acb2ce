import Derived.Test.Qxb6606138aDoorRuns
namespace Go.Proofs.Qxb6606138aDoor
namespace My

/-- The ops as slide's scan stands at p: fa and ta lines behind it. -/
structure Sv (M : Nat → Nat → Prop) (n nF nT c : Nat) (l : List Int) (p fa ta : Nat) : Prop where
  len : l.length = n
  pn : p ≤ n
  head : Vs M (l.take p) 0 0 fa ta
  tail : Vs M (l.drop p) fa ta nF nT
  canon : Canon false l
  kept : kept l = c

/-- At p no run has been begun. -/
def Edge (l : List Int) (p : Nat) : Prop := p < l.length → l.getD p 0 ≠ 32 → p = 0 ∨ l.getD (p - 1) 0 = 32

theorem Sv.op {M : Nat → Nat → Prop} {n nF nT c : Nat} {l : List Int} {p fa ta : Nat} (h : Sv M n nF nT c l p fa ta) (hp : p < n) :
    (l.getD p 0 = 32 ∧ M fa ta ∧ Vs M (l.drop (p + 1)) (fa + 1) (ta + 1) nF nT) ∨ (l.getD p 0 = 45 ∧ Vs M (l.drop (p + 1)) (fa + 1) ta nF nT) ∨ (l.getD p 0 = 43 ∧ Vs M (l.drop (p + 1)) fa (ta + 1) nF nT) := by
  have := h.tail
  rw [drop_getD l p (by rw [h.len]; exact hp)] at this
  simpa only [Vs] using this

theorem Sv.step {M : Nat → Nat → Prop} {n nF nT c : Nat} {l : List Int} {p fa ta fa' ta' : Nat} (h : Sv M n nF nT c l p fa ta) (hp : p < n) (h1 : Vs M [l.getD p 0] fa ta fa' ta') (h2 : Vs M (l.drop (p + 1)) fa' ta' nF nT) : Sv M n nF nT c l (p + 1) fa' ta' := by
  refine ⟨h.len, by omega, ?_, h2, h.canon, h.kept⟩
  rw [take_getD l p (by rw [h.len]; exact hp), Vs_append]
  exact ⟨_, _, h.head, h1⟩

/-- A kept line. -/
theorem Sv.keep {M : Nat → Nat → Prop} {n nF nT c : Nat} {l : List Int} {p fa ta : Nat} (h : Sv M n nF nT c l p fa ta) (hp : p < n) (h32 : l.getD p 0 = 32) : Sv M n nF nT c l (p + 1) (fa + 1) (ta + 1) := by
  rcases h.op hp with ⟨_, hm, h2⟩ | ⟨h1, _⟩ | ⟨h1, _⟩
  · exact h.step hp (by rw [h32]; exact Or.inl ⟨rfl, hm, rfl, rfl⟩) h2
  · omega
  · omega

theorem Sv.rem {M : Nat → Nat → Prop} {n nF nT c : Nat} {l : List Int} {p fa ta : Nat} (h : Sv M n nF nT c l p fa ta) (hp : p < n) (h45 : l.getD p 0 = 45) : Sv M n nF nT c l (p + 1) (fa + 1) ta := by
  rcases h.op hp with ⟨h1, _⟩ | ⟨_, h2⟩ | ⟨h1, _⟩
  · omega
  · exact h.step hp (by rw [h45]; exact Or.inr (Or.inl ⟨rfl, rfl, rfl⟩)) h2
  · omega

theorem Sv.add {M : Nat → Nat → Prop} {n nF nT c : Nat} {l : List Int} {p fa ta : Nat} (h : Sv M n nF nT c l p fa ta) (hp : p < n) (h43 : l.getD p 0 = 43) : Sv M n nF nT c l (p + 1) fa (ta + 1) := by
  rcases h.op hp with ⟨h1, _⟩ | ⟨h1, _⟩ | ⟨_, h2⟩
  · omega
  · omega
  · exact h.step hp (by rw [h43]; exact Or.inr (Or.inr ⟨rfl, rfl, rfl⟩)) h2

theorem Sv.inside {M : Nat → Nat → Prop} {n nF nT c : Nat} {l : List Int} {p fa ta : Nat} (h : Sv M n nF nT c l p fa ta) : fa ≤ nF ∧ ta ≤ nT := Vs_le h.tail

theorem cost_drop_lt {l : List Int} {p : Nat} (hp : p < l.length) (h : l.getD p 0 ≠ 32) : cost (l.drop (p + 1)) < cost (l.drop p) := by
  rw [drop_getD l p hp]
  simp only [cost, if_neg h]; omega

theorem cost_drop_eq {l : List Int} {p : Nat} (hp : p < l.length) (h : l.getD p 0 = 32) : cost (l.drop (p + 1)) = cost (l.drop p) := by
  rw [drop_getD l p hp]
  simp only [cost, if_pos h]; omega

theorem cost_drop_le {l : List Int} {p q : Nat} (h : p ≤ q) : cost (l.drop q) ≤ cost (l.drop p) := by
  have e : l.drop p = (l.drop p).take (q - p) ++ l.drop q := by
    rw [show l.drop q = (l.drop p).drop (q - p) by rw [List.drop_drop]; congr 1; omega]
    exact (List.take_append_drop _ _).symm
  rw [e, cost_append]; omega

theorem ext_getD {a b : List Int} (h : a.length = b.length) (hh : ∀ i, i < a.length → a.getD i 0 = b.getD i 0) : a = b := by
  refine List.ext_getElem h fun i h1 h2 => ?_
  have := hh i h1
  simpa [h1, h2] using this

theorem getD_append (a b : List Int) (i : Nat) : (a ++ b).getD i 0 = if i < a.length then a.getD i 0 else b.getD (i - a.length) 0 := by
  simp only [List.getD_eq_getElem?_getD]
  split
  · rw [List.getElem?_append_left (by assumption)]
  · rw [List.getElem?_append_right (by omega)]

theorem getD_replicate (c : Nat) (o : Int) (i : Nat) (h : i < c) : (List.replicate c o).getD i 0 = o := by simp [h]

theorem getD_take (l : List Int) (k i : Nat) (h : i < k) : (l.take k).getD i 0 = l.getD i 0 := by
  simp [h]

theorem getD_drop (l : List Int) (k i : Nat) : (l.drop k).getD i 0 = l.getD (k + i) 0 := by simp

theorem zone_getD (o : Int) (a k b i : Nat) (h : i < a + k + b) : (zone o a k b).getD i 0 = if a ≤ i ∧ i < a + k then o else 32 := by
  unfold zone
  rw [getD_append, getD_append]
  simp only [List.length_append, List.length_replicate]
  split
  · split
    · rw [getD_replicate _ _ _ (by omega), if_neg (by omega)]
    · rw [getD_replicate _ _ _ (by omega), if_pos (by omega)]
  · rw [getD_replicate _ _ _ (by omega), if_neg (by omega)]

/-- The ops as a list in three: ahead of the zone, the zone, behind it. -/
theorem three {l : List Int} {s a k b : Nat} {o : Int} (hl : s + (a + k + b) ≤ l.length) (h : ∀ i, i < a + k + b → l.getD (s + i) 0 = if a ≤ i ∧ i < a + k then o else 32) :
    l = l.take s ++ zone o a k b ++ l.drop (s + (a + k + b)) := by
  refine ext_getD ?_ fun i hi => ?_
  · simp [zone_length]; omega
  · have hts : (l.take s).length = s := by simp; omega
    rw [getD_append, getD_append]
    simp only [List.length_append, zone_length, hts]
    split
    · split
      · rw [getD_take _ _ _ (by assumption)]
      · rw [zone_getD _ _ _ _ _ (by omega), ← h (i - s) (by omega)]; congr 1; omega
    · rw [getD_drop]; congr 1; omega

/-- What a moved run leaves. -/
theorem Sv.slid {M : Nat → Nat → Prop} {n nF nT c : Nat} {l l' : List Int} {p fa ta q up down : Nat} {sh : Int} {o : Int} (h : Sv M n nF nT c l p fa ta) (ho : o = 45 ∨ o = 43) (hq : p < q) (hqn : q + down ≤ n) (hup : up ≤ p)
    (hrun : ∀ j, p ≤ j → j < q → l.getD j 0 = o) (hu : ∀ j, p - up ≤ j → j < p → l.getD j 0 = 32) (hd : ∀ j, q ≤ j → j < q + down → l.getD j 0 = 32)
    (he1 : p - up = 0 ∨ l.getD (p - up - 1) 0 = 32) (he2 : q + down = n ∨ l.getD (q + down) 0 = 32)
    (hs1 : -(up : Int) ≤ sh) (hs2 : sh ≤ down)
    (hR : o = 45 → ∀ i, i < up + down → ∀ z, z < nT → (M (fa - up + i) z ↔ M (fa - up + i + (q - p)) z))
    (hA : o = 43 → ∀ i, i < up + down → ∀ z, z < nF → (M z (ta - up + i) ↔ M z (ta - up + i + (q - p))))
    (hlen : l'.length = n) (hl' : ∀ j, j < n → l'.getD j 0 = if (p : Int) + sh ≤ j ∧ (j : Int) < q + sh then o else if p - up ≤ j ∧ j < q + down then 32 else l.getD j 0) :
    (o = 45 → Sv M n nF nT c l' ((q : Int) + sh).toNat ((fa : Int) + sh + (q - p : Nat)).toNat ((ta : Int) + sh).toNat ∧ 0 ≤ (fa : Int) + sh ∧ 0 ≤ (ta : Int) + sh) ∧
    (o = 43 → Sv M n nF nT c l' ((q : Int) + sh).toNat ((fa : Int) + sh).toNat ((ta : Int) + sh + (q - p : Nat)).toNat ∧ 0 ≤ (fa : Int) + sh ∧ 0 ≤ (ta : Int) + sh) ∧
    Edge l' ((q : Int) + sh).toNat ∧ cost (l'.drop ((q : Int) + sh).toNat) < cost (l.drop p) := by
  obtain ⟨a, ha⟩ : ∃ a : Nat, (a : Int) = up + sh := ⟨((up : Int) + sh).toNat, by omega⟩
  obtain ⟨b, hb⟩ : ∃ b : Nat, (b : Int) = down - sh := ⟨((down : Int) - sh).toNat, by omega⟩
  have hn := h.len
  have ho32 : o ≠ 32 := by omega
  have hab : a + b = up + down := by omega
  have e1 : l = l.take (p - up) ++ zone o up (q - p) down ++ l.drop (q + down) := by
    have := three (l := l) (s := p - up) (a := up) (k := q - p) (b := down) (o := o) (by omega) (fun i hi => by
      split
      · exact hrun _ (by omega) (by omega)
      · by_cases hlt : p - up + i < p
        · exact hu _ (by omega) hlt
        · exact hd _ (by omega) (by omega))
    rwa [show p - up + (up + (q - p) + down) = q + down by omega] at this
  have e2 : l' = l.take (p - up) ++ zone o a (q - p) b ++ l.drop (q + down) := by
    have := three (l := l') (s := p - up) (a := a) (k := q - p) (b := b) (o := o) (by omega) (fun i hi => by
      rw [hl' _ (by omega)]
      by_cases hin : a ≤ i ∧ i < a + (q - p)
      · rw [if_pos hin, if_pos (by omega)]
      · rw [if_neg hin, if_neg (by omega), if_pos (by omega)])
    rw [show p - up + (a + (q - p) + b) = q + down by omega] at this
    rw [this]
    congr 1
    · congr 1
      refine ext_getD (by simp; omega) fun i hi => ?_
      simp at hi
      rw [getD_take _ _ _ (by omega), getD_take _ _ _ (by omega), hl' _ (by omega), if_neg (by omega), if_neg (by omega)]
    · refine ext_getD (by simp; omega) fun i hi => ?_
      simp at hi
      rw [getD_drop, getD_drop, hl' _ (by omega), if_neg (by omega), if_neg (by omega)]
  -- where the pieces of the old ops stand
  have hall : Vs M l 0 0 nF nT := by
    rw [← List.take_append_drop p l, Vs_append]; exact ⟨_, _, h.head, h.tail⟩
  have hall' := hall
  rw [e1, Vs_append, ] at hall'
  obtain ⟨u, v, hXz, hZ⟩ := hall'
  rw [Vs_append] at hXz
  obtain ⟨x0, y0, hX, hz⟩ := hXz
  have ht : l.take p = l.take (p - up) ++ List.replicate up 32 := by
    refine ext_getD (by simp; omega) fun i hi => ?_
    simp at hi
    have hts : (l.take (p - up)).length = p - up := by simp; omega
    rw [getD_take _ _ _ (by omega), getD_append, hts]
    split
    · rw [getD_take _ _ _ (by assumption)]
    · rw [getD_replicate _ _ _ (by omega)]; exact hu _ (by omega) (by omega)
  have hhead := h.head
  rw [ht, Vs_append] at hhead
  obtain ⟨x1, y1, hX1, hk1⟩ := hhead
  have hx : x1 = x0 ∧ y1 = y0 := by
    have c1 := Vs_count hX
    have c2 := Vs_count hX1
    have hf : ∀ (t : List Int) (x y x' y' x'' y'' : Nat), Vs M t x y x' y' → Vs M t x y x'' y'' → x' = x'' ∧ y' = y'' := by
      intro t
      induction t with
      | nil => intro x y x' y' x'' y'' h1 h2; simp only [Vs] at h1 h2; omega
      | cons o t ih =>
        intro x y x' y' x'' y'' h1 h2
        rcases h1 with ⟨a1, _, a2⟩ | ⟨a1, a2⟩ | ⟨a1, a2⟩ <;> rcases h2 with ⟨b1, _, b2⟩ | ⟨b1, b2⟩ | ⟨b1, b2⟩ <;> first | (exact ih _ _ _ _ _ _ a2 b2) | omega
    exact hf _ _ _ _ _ _ _ hX1 hX
  obtain ⟨rfl, rfl⟩ := hx
  rw [Vs_kept] at hk1
  obtain ⟨hfa, hta, _⟩ := hk1
  have hu1 := Vs_le hZ
  have hz' : Vs M (zone o a (q - p) b) x1 y1 u v := by
    rcases ho with rfl | rfl
    · exact zone_rem hz hab (fun i hi z hzv => by have := hR rfl i hi z (by omega); rwa [show fa - up = x1 by omega] at this)
    · exact zone_add hz hab (fun i hi z hzu => by have := hA rfl i hi z (by omega); rwa [show ta - up = y1 by omega] at this)
  have hall2 : Vs M l' 0 0 nF nT := by
    rw [e2, Vs_append]; refine ⟨u, v, ?_, hZ⟩; rw [Vs_append]; exact ⟨_, _, hX, hz'⟩
  have hcan : Canon false l' := by
    have hc := h.canon
    rw [e1] at hc
    rw [e2]
    refine canon_zone ho ?_ ?_ hc
    · refine after_last ?_
      rcases he1 with h0 | h0
      · exact Or.inl (by rw [h0]; rfl)
      · by_cases hz0 : p - up = 0
        · exact Or.inl (by rw [hz0]; rfl)
        · refine Or.inr ?_
          rw [List.getLast?_eq_getElem?]
          simp only [List.length_take]
          rw [show min (p - up) l.length - 1 = p - up - 1 by omega, List.getElem?_take, if_pos (by omega)]
          have hg : p - up - 1 < l.length := by omega
          rw [List.getElem?_eq_getElem hg]
          simpa [hg] using h0
    · intro o' t' hot
      rcases he2 with h0 | h0
      · have : l.drop (q + down) = [] := List.drop_eq_nil_of_le (by omega)
        rw [this] at hot; cases hot
      · have hlt : q + down < l.length := by
          by_cases hlt : q + down < l.length
          · exact hlt
          · have : l.drop (q + down) = [] := List.drop_eq_nil_of_le (by omega)
            rw [this] at hot; cases hot
        rw [drop_getD l _ hlt] at hot
        simp only [List.cons.injEq] at hot
        omega
  have hkept : My.kept l' = c := by
    have h1 := h.kept
    rw [e1, kept_append, kept_append, zone_kept _ ho32] at h1
    rw [e2, kept_append, kept_append, zone_kept _ ho32]
    omega
  -- where the scan goes on
  have hp' : ((q : Int) + sh).toNat = p - up + (a + (q - p)) := by omega
  have htX : (l.take (p - up)).length = p - up := by simp; omega
  have htake : l'.take ((q : Int) + sh).toNat = l.take (p - up) ++ (List.replicate a 32 ++ List.replicate (q - p) o) := by
    rw [hp', e2, List.append_assoc, List.take_append, htX]
    rw [List.take_of_length_le (l := l.take (p - up)) (by simp; omega)]
    congr 1
    unfold zone
    rw [List.append_assoc, List.take_append]
    rw [List.take_of_length_le (by simp)]
    simp
  have hdrop : l'.drop ((q : Int) + sh).toNat = List.replicate b 32 ++ l.drop (q + down) := by
    rw [hp', e2, List.append_assoc, List.drop_append, htX]
    rw [List.drop_of_length_le (l := l.take (p - up)) (by simp; omega)]
    unfold zone
    rw [List.nil_append, List.append_assoc, List.drop_append]
    rw [List.drop_of_length_le (by simp)]
    simp
  have hzp : ∀ u' v', Vs M (List.replicate a 32 ++ List.replicate (q - p) o) x1 y1 u' v' → Vs M (List.replicate b 32) u' v' u v → Sv M n nF nT c l' ((q : Int) + sh).toNat u' v' := by
    intro u' v' g1 g2
    refine ⟨hlen, by omega, ?_, ?_, hcan, hkept⟩
    · rw [htake, Vs_append]; exact ⟨_, _, hX, g1⟩
    · rw [hdrop, Vs_append]; exact ⟨_, _, g2, hZ⟩
  unfold zone at hz'
  rw [Vs_append] at hz'
  obtain ⟨u', v', g1, g2⟩ := hz'
  have g1' := g1
  rw [Vs_append] at g1'
  obtain ⟨u2, v2, g3, g4⟩ := g1'
  rw [Vs_kept] at g3
  obtain ⟨rfl, rfl, _⟩ := g3
  refine ⟨fun h45 => ?_, fun h43 => ?_, ?_, ?_⟩
  · subst h45
    rw [Vs_rems] at g4
    obtain ⟨rfl, rfl⟩ := g4
    refine ⟨?_, by omega, by omega⟩
    have := hzp _ _ g1 g2
    rwa [show ((fa : Int) + sh + (q - p : Nat)).toNat = x1 + a + (q - p) by omega, show ((ta : Int) + sh).toNat = y1 + a by omega]
  · subst h43
    rw [Vs_adds] at g4
    obtain ⟨rfl, rfl⟩ := g4
    refine ⟨?_, by omega, by omega⟩
    have := hzp _ _ g1 g2
    rwa [show ((fa : Int) + sh).toNat = x1 + a by omega, show ((ta : Int) + sh + (q - p : Nat)).toNat = y1 + a + (q - p) by omega]
  · intro hlt hne
    exfalso
    apply hne
    rw [hl' _ (by omega)]
    rw [if_neg (by omega)]
    by_cases hb0 : ((q : Int) + sh).toNat < q + down
    · rw [if_pos (by omega)]
    · rw [if_neg (by omega)]
      rw [show ((q : Int) + sh).toNat = q + down by omega]
      rcases he2 with h0 | h0
      · omega
      · exact h0
  · rw [hdrop, cost_append, replicate_cost]
    have h1 := cost_drop_le (l := l) (p := q) (q := q + down) (by omega)
    have h2 := cost_drop_le (l := l) (p := p + 1) (q := q) (by omega)
    have h3 := cost_drop_lt (l := l) (p := p) (by omega) (by rw [hrun p (by omega) hq]; exact ho32)
    omega

end My
end Go.Proofs.Qxb6606138aDoor
