import Derived.Test.Qxb6606138aDoorParts
import Derived.Test.Qxb6606138aDoorW1
namespace Go.Proofs.Qxb6606138aDoor
namespace My

theorem Vs_kept {M : Nat → Nat → Prop} (c : Nat) {x y u v : Nat} : Vs M (List.replicate c 32) x y u v ↔ u = x + c ∧ v = y + c ∧ ∀ i, i < c → M (x + i) (y + i) := by
  induction c generalizing x y with
  | zero => 
    simp only [List.replicate_zero, Vs]
    constructor
    · rintro ⟨rfl, rfl⟩; exact ⟨rfl, rfl, fun i hi => by omega⟩
    · rintro ⟨h1, h2, _⟩; omega
  | succ c ih =>
    simp only [List.replicate_succ, Vs, ih]
    constructor
    · rintro (⟨_, hm, h1, h2, h3⟩ | ⟨h, _⟩ | ⟨h, _⟩)
      · refine ⟨by omega, by omega, fun i hi => ?_⟩
        cases i with
        | zero => exact hm
        | succ i => have := h3 i (by omega); rwa [show x + 1 + i = x + (i + 1) by omega, show y + 1 + i = y + (i + 1) by omega] at this
      · omega
      · omega
    · rintro ⟨h1, h2, h3⟩
      refine Or.inl ⟨trivial, by simpa using h3 0 (by omega), by omega, by omega, fun i hi => ?_⟩
      have := h3 (i + 1) (by omega)
      rwa [show x + 1 + i = x + (i + 1) by omega, show y + 1 + i = y + (i + 1) by omega]

theorem Vs_rems {M : Nat → Nat → Prop} (c : Nat) {x y u v : Nat} : Vs M (List.replicate c 45) x y u v ↔ u = x + c ∧ v = y := by
  induction c generalizing x with
  | zero => simp only [List.replicate_zero, Vs]; omega
  | succ c ih =>
    simp only [List.replicate_succ, Vs, ih]
    constructor
    · rintro (⟨h, _⟩ | ⟨_, h1, h2⟩ | ⟨h, _⟩) <;> omega
    · rintro ⟨h1, h2⟩; exact Or.inr (Or.inl ⟨trivial, by omega, h2⟩)

theorem Vs_adds {M : Nat → Nat → Prop} (c : Nat) {x y u v : Nat} : Vs M (List.replicate c 43) x y u v ↔ u = x ∧ v = y + c := by
  induction c generalizing y with
  | zero => simp only [List.replicate_zero, Vs]; omega
  | succ c ih =>
    simp only [List.replicate_succ, Vs, ih]
    constructor
    · rintro (⟨h, _⟩ | ⟨h, _⟩ | ⟨_, h1, h2⟩) <;> omega
    · rintro ⟨h1, h2⟩; exact Or.inr (Or.inr ⟨trivial, h1, by omega⟩)

/-- a kept lines, k changes of one kind, b kept lines. -/
def zone (o : Int) (a k b : Nat) : List Int := List.replicate a 32 ++ List.replicate k o ++ List.replicate b 32

theorem zone_length (o : Int) (a k b : Nat) : (zone o a k b).length = a + k + b := by simp [zone]; omega

theorem zone_kept (o : Int) (ho : o ≠ 32) (a k b : Nat) : kept (zone o a k b) = a + b := by
  have := kept_cost (zone o a k b)
  rw [zone_length] at this
  unfold zone at *
  rw [kept_append, kept_append, replicate_kept, replicate_kept]
  rw [cost_append, cost_append, replicate_cost, replicate_cost, rep_cost _ _ ho, kept_append, kept_append, replicate_kept, replicate_kept] at this
  omega

theorem zone_rem {M : Nat → Nat → Prop} {a k b a' b' x y u v : Nat} (h : Vs M (zone 45 a k b) x y u v) (hab : a' + b' = a + b) (hs : ∀ i, i < a + b → ∀ z, z < v → (M (x + i) z ↔ M (x + i + k) z)) : Vs M (zone 45 a' k b') x y u v := by
  unfold zone at *
  simp only [Vs_append, Vs_kept, Vs_rems] at *
  obtain ⟨p, q, ⟨p1, q1, ⟨rfl, rfl, h1⟩, rfl, rfl⟩, rfl, rfl, h2⟩ := h
  refine ⟨_, _, ⟨_, _, ⟨rfl, rfl, fun i hi => ?_⟩, rfl, rfl⟩, by omega, by omega, fun i hi => ?_⟩
  · by_cases hia : i < a
    · exact h1 i hia
    · rw [hs i (by omega) _ (by omega)]
      have := h2 (i - a) (by omega)
      rwa [show x + a + k + (i - a) = x + i + k by omega, show y + a + (i - a) = y + i by omega] at this
  · by_cases hia : a ≤ a' + i
    · have := h2 (a' + i - a) (by omega)
      rwa [show x + a + k + (a' + i - a) = x + a' + k + i by omega, show y + a + (a' + i - a) = y + a' + i by omega] at this
    · have := h1 (a' + i) (by omega)
      rw [hs (a' + i) (by omega) _ (by omega)] at this
      rwa [show x + (a' + i) + k = x + a' + k + i by omega, show y + (a' + i) = y + a' + i by omega] at this

theorem zone_add {M : Nat → Nat → Prop} {a k b a' b' x y u v : Nat} (h : Vs M (zone 43 a k b) x y u v) (hab : a' + b' = a + b) (hs : ∀ i, i < a + b → ∀ z, z < u → (M z (y + i) ↔ M z (y + i + k))) : Vs M (zone 43 a' k b') x y u v := by
  unfold zone at *
  simp only [Vs_append, Vs_kept, Vs_adds] at *
  obtain ⟨p, q, ⟨p1, q1, ⟨rfl, rfl, h1⟩, rfl, rfl⟩, rfl, rfl, h2⟩ := h
  refine ⟨_, _, ⟨_, _, ⟨rfl, rfl, fun i hi => ?_⟩, rfl, rfl⟩, by omega, by omega, fun i hi => ?_⟩
  · by_cases hia : i < a
    · exact h1 i hia
    · rw [hs i (by omega) _ (by omega)]
      have := h2 (i - a) (by omega)
      rwa [show y + a + k + (i - a) = y + i + k by omega, show x + a + (i - a) = x + i by omega] at this
  · by_cases hia : a ≤ a' + i
    · have := h2 (a' + i - a) (by omega)
      rwa [show y + a + k + (a' + i - a) = y + a' + k + i by omega, show x + a + (a' + i - a) = x + a' + i by omega] at this
    · have := h1 (a' + i) (by omega)
      rw [hs (a' + i) (by omega) _ (by omega)] at this
      rwa [show y + (a' + i) + k = y + a' + k + i by omega, show x + (a' + i) = x + a' + i by omega] at this

/-! ## runs in order -/

def after : Bool → List Int → Bool
  | s, [] => s
  | s, o :: t => after (if o = 32 then false else if o = 43 then true else s) t

theorem after_append (s : Bool) (a b : List Int) : after s (a ++ b) = after (after s a) b := by
  induction a generalizing s with
  | nil => rfl
  | cons o t ih => exact ih _

theorem canon_append (s : Bool) (a b : List Int) : Canon s (a ++ b) ↔ Canon s a ∧ Canon (after s a) b := by
  induction a generalizing s with
  | nil => simp [Canon, after]
  | cons o t ih =>
    simp only [List.cons_append, Canon, after]
    by_cases h1 : o = 32
    · simp only [h1, if_true, ih]
    · simp only [h1, if_false]
      by_cases h2 : o = 43
      · simp only [h2, if_true, ih]
      · simp only [h2, if_false, ih, and_assoc]

theorem canon_kepts (s : Bool) (c : Nat) : Canon s (List.replicate c 32) := by
  induction c generalizing s with
  | zero => trivial
  | succ c ih => simp only [List.replicate_succ, Canon, if_true]; exact ih _

theorem canon_rems (c : Nat) : Canon false (List.replicate c 45) ∧ after false (List.replicate c 45) = false := by
  induction c with
  | zero => exact ⟨trivial, rfl⟩
  | succ c ih => simp only [List.replicate_succ, Canon, after]; exact ⟨⟨trivial, ih.1⟩, ih.2⟩

theorem canon_adds (s : Bool) (c : Nat) : Canon s (List.replicate c 43) := by
  induction c generalizing s with
  | zero => trivial
  | succ c ih => simp only [List.replicate_succ, Canon]; exact ih _

theorem after_kepts (c : Nat) : after false (List.replicate c 32) = false := by
  induction c with
  | zero => rfl
  | succ c ih => simp only [List.replicate_succ, after, if_true]; exact ih

/-- A list that is empty or opens with a kept line. -/
def Opens (l : List Int) : Prop := ∀ o t, l = o :: t → o = 32

theorem canon_opens {l : List Int} (h : Opens l) (s : Bool) : Canon s l ↔ Canon false l := by
  cases l with
  | nil => simp [Canon]
  | cons o t => have := h o t rfl; subst this; simp [Canon]

theorem canon_zone {X Z : List Int} {o : Int} (ho : o = 45 ∨ o = 43) {a k b a' b' : Nat} (hX : after false X = false) (hZ : Opens Z) (h : Canon false (X ++ zone o a k b ++ Z)) : Canon false (X ++ zone o a' k b' ++ Z) := by
  rw [canon_append, canon_append] at *
  obtain ⟨⟨h1, _⟩, h3⟩ := h
  rw [canon_opens hZ] at *
  refine ⟨⟨h1, ?_⟩, h3⟩
  rw [hX]
  unfold zone
  rw [canon_append, canon_append]
  refine ⟨⟨canon_kepts _ _, ?_⟩, canon_kepts _ _⟩
  rw [after_kepts]
  rcases ho with rfl | rfl
  · exact (canon_rems k).1
  · exact canon_adds _ k

theorem after_last {l : List Int} (h : l = [] ∨ l.getLast? = some 32) : after false l = false := by
  rcases h with rfl | h
  · rfl
  · obtain ⟨t, rfl⟩ : ∃ t, l = t ++ [32] := by
      have hne : l ≠ [] := by rintro rfl; simp at h
      refine ⟨l.dropLast, ?_⟩
      have := List.dropLast_concat_getLast hne
      rw [List.getLast?_eq_some_getLast hne] at h
      rw [← this]
      simp at h
      rw [h]
      simp
    rw [after_append]; rfl

/-- A run of changes, those that remove first. -/
def rems : List Int → Nat
  | [] => 0
  | o :: t => (if o = 45 then 1 else 0) + rems t

theorem rems_append (a b : List Int) : rems (a ++ b) = rems a + rems b := by
  induction a with
  | nil => simp [rems]
  | cons o t ih => simp only [List.cons_append, rems, ih]; omega

theorem rems_le (a : List Int) : rems a ≤ a.length := by
  induction a with
  | nil => simp [rems]
  | cons o t ih => simp only [rems, List.length_cons]; split <;> omega

def sorted (r : List Int) : List Int := List.replicate (rems r) 45 ++ List.replicate (r.length - rems r) 43

theorem sorted_length (r : List Int) : (sorted r).length = r.length := by have := rems_le r; simp [sorted]; omega

theorem Vs_run' {M : Nat → Nat → Prop} {r : List Int} (hr : ∀ o ∈ r, o ≠ 32) {x y u v : Nat} (h : Vs M r x y u v) : u = x + rems r ∧ v = y + (r.length - rems r) := by
  induction r generalizing x y with
  | nil => simp only [Vs] at h; simp [rems]; omega
  | cons o t ih =>
    have hle := rems_le t
    rcases h with ⟨ho, _, _⟩ | ⟨ho, h⟩ | ⟨ho, h⟩
    · exact absurd ho (hr o (by simp))
    · have := ih (fun o ho => hr o (by simp [ho])) h
      subst ho; simp [rems]; omega
    · have := ih (fun o ho => hr o (by simp [ho])) h
      subst ho; simp [rems]; omega

theorem Vs_sorted {M : Nat → Nat → Prop} {r : List Int} (hr : ∀ o ∈ r, o ≠ 32) {x y u v : Nat} (h : Vs M r x y u v) : Vs M (sorted r) x y u v := by
  obtain ⟨h1, h2⟩ := Vs_run' hr h
  unfold sorted
  rw [Vs_append]
  exact ⟨_, _, (Vs_rems _).2 ⟨rfl, rfl⟩, (Vs_adds _).2 ⟨h1, h2⟩⟩

theorem kept_run {r : List Int} (hr : ∀ o ∈ r, o ≠ 32) : kept r = 0 := by
  induction r with
  | nil => rfl
  | cons o t ih => simp only [kept, if_neg (hr o (by simp))]; rw [ih (fun o ho => hr o (by simp [ho]))]

theorem kept_sorted (r : List Int) : kept (sorted r) = 0 := by
  refine kept_run fun o ho => ?_
  simp only [sorted, List.mem_append, List.mem_replicate] at ho
  rcases ho with ⟨_, rfl⟩ | ⟨_, rfl⟩ <;> decide

theorem canon_sorted (r : List Int) : Canon false (sorted r) := by
  unfold sorted
  rw [canon_append]
  exact ⟨(canon_rems _).1, by rw [(canon_rems _).2]; exact canon_adds _ _⟩

end My
end Go.Proofs.Qxb6606138aDoor
