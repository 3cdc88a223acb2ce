namespace Go.Proofs.Qxb6606138aDoor
namespace My

/-- 'l' is an edit script that leads from (x, y) to (u, v): 32 keeps a matching pair, 45 removes, 43 adds. -/
def Vs (M : Nat → Nat → Prop) : List Int → Nat → Nat → Nat → Nat → Prop
  | [], x, y, u, v => x = u ∧ y = v
  | o :: t, x, y, u, v => (o = 32 ∧ M x y ∧ Vs M t (x + 1) (y + 1) u v) ∨ (o = 45 ∧ Vs M t (x + 1) y u v) ∨ (o = 43 ∧ Vs M t x (y + 1) u v)

def cost : List Int → Nat
  | [] => 0
  | o :: t => (if o = 32 then 0 else 1) + cost t

def kept : List Int → Nat
  | [] => 0
  | o :: t => (if o = 32 then 1 else 0) + kept t

theorem cost_append (a b : List Int) : cost (a ++ b) = cost a + cost b := by
  induction a with
  | nil => simp [cost]
  | cons o t ih => simp only [List.cons_append, cost, ih]; omega

theorem kept_append (a b : List Int) : kept (a ++ b) = kept a + kept b := by
  induction a with
  | nil => simp [kept]
  | cons o t ih => simp only [List.cons_append, kept, ih]; omega

theorem cost_reverse (a : List Int) : cost a.reverse = cost a := by
  induction a with
  | nil => rfl
  | cons o t ih => simp only [List.reverse_cons, cost_append, ih, cost]; omega

theorem kept_cost (a : List Int) : kept a + cost a = a.length := by
  induction a with
  | nil => rfl
  | cons o t ih => simp only [kept, cost, List.length_cons]; split <;> omega

theorem Vs_append {M : Nat → Nat → Prop} {a b : List Int} {x y u v : Nat} :
    Vs M (a ++ b) x y u v ↔ ∃ p q, Vs M a x y p q ∧ Vs M b p q u v := by
  induction a generalizing x y with
  | nil => 
    simp only [List.nil_append, Vs]
    constructor
    · intro h; exact ⟨x, y, ⟨rfl, rfl⟩, h⟩
    · rintro ⟨p, q, ⟨rfl, rfl⟩, h⟩; exact h
  | cons o t ih =>
    simp only [List.cons_append, Vs, ih]
    constructor
    · rintro (⟨h, hm, p, q, h1, h2⟩ | ⟨h, p, q, h1, h2⟩ | ⟨h, p, q, h1, h2⟩)
      · exact ⟨p, q, Or.inl ⟨h, hm, h1⟩, h2⟩
      · exact ⟨p, q, Or.inr (Or.inl ⟨h, h1⟩), h2⟩
      · exact ⟨p, q, Or.inr (Or.inr ⟨h, h1⟩), h2⟩
    · rintro ⟨p, q, (⟨h, hm, h1⟩ | ⟨h, h1⟩ | ⟨h, h1⟩), h2⟩
      · exact Or.inl ⟨h, hm, p, q, h1, h2⟩
      · exact Or.inr (Or.inl ⟨h, p, q, h1, h2⟩)
      · exact Or.inr (Or.inr ⟨h, p, q, h1, h2⟩)

theorem Vs_le {M : Nat → Nat → Prop} {l : List Int} {x y u v : Nat} (h : Vs M l x y u v) : x ≤ u ∧ y ≤ v := by
  induction l generalizing x y with
  | nil => simp only [Vs] at h; omega
  | cons o t ih =>
    rcases h with ⟨_, _, h⟩ | ⟨_, h⟩ | ⟨_, h⟩ <;> have := ih h <;> omega

/-- The pieces' numbers: kept twice and the cost are the two spans together. -/
theorem Vs_count {M : Nat → Nat → Prop} {l : List Int} {x y u v : Nat} (h : Vs M l x y u v) : 2 * kept l + cost l + x + y = u + v := by
  induction l generalizing x y with
  | nil => simp only [Vs] at h; simp only [kept, cost]; omega
  | cons o t ih =>
    rcases h with ⟨rfl, _, h⟩ | ⟨rfl, h⟩ | ⟨rfl, h⟩ <;> have := ih h <;> simp only [kept, cost] <;> simp <;> omega

/-- The diagonal that a script comes to is no further off than its cost. -/
theorem Vs_diag {M : Nat → Nat → Prop} {l : List Int} {x y u v : Nat} (h : Vs M l x y u v) : u + y ≤ v + x + cost l ∧ v + x ≤ u + y + cost l := by
  induction l generalizing x y with
  | nil => simp only [Vs] at h; simp only [cost]; omega
  | cons o t ih =>
    rcases h with ⟨rfl, _, h⟩ | ⟨rfl, h⟩ | ⟨rfl, h⟩ <;> have := ih h <;> simp only [cost] <;> simp <;> omega

theorem Vs_mono {M M' : Nat → Nat → Prop} (hM : ∀ i j, M i j → M' i j) {l : List Int} {x y u v : Nat} (h : Vs M l x y u v) : Vs M' l x y u v := by
  induction l generalizing x y with
  | nil => exact h
  | cons o t ih =>
    rcases h with ⟨ho, hm, h⟩ | ⟨ho, h⟩ | ⟨ho, h⟩
    · exact Or.inl ⟨ho, hM _ _ hm, ih h⟩
    · exact Or.inr (Or.inl ⟨ho, ih h⟩)
    · exact Or.inr (Or.inr ⟨ho, ih h⟩)

/-- Only the pairs ahead of the end are asked. -/
theorem Vs_within {M M' : Nat → Nat → Prop} {l : List Int} {x y u v : Nat} (hM : ∀ i j, i < u → j < v → M i j → M' i j) (h : Vs M l x y u v) : Vs M' l x y u v := by
  induction l generalizing x y with
  | nil => exact h
  | cons o t ih =>
    rcases h with ⟨ho, hm, h⟩ | ⟨ho, h⟩ | ⟨ho, h⟩
    · have := Vs_le h
      exact Or.inl ⟨ho, hM _ _ (by omega) (by omega) hm, ih h⟩
    · exact Or.inr (Or.inl ⟨ho, ih h⟩)
    · exact Or.inr (Or.inr ⟨ho, ih h⟩)

/-- A window of the texts: the same script, told from the window's corner. -/
theorem Vs_shift {M : Nat → Nat → Prop} (a b : Nat) {l : List Int} {x y u v : Nat} :
    Vs (fun i j => M (a + i) (b + j)) l x y u v ↔ Vs M l (a + x) (b + y) (a + u) (b + v) := by
  induction l generalizing x y with
  | nil => simp only [Vs]; omega
  | cons o t ih =>
    simp only [Vs, ih]
    rw [show a + (x + 1) = a + x + 1 by omega, show b + (y + 1) = b + y + 1 by omega]

theorem Vs_last {M : Nat → Nat → Prop} {t : List Int} {o : Int} {x y u v : Nat} (h : Vs M (t ++ [o]) x y u v) :
    (o = 32 ∧ ∃ p q, u = p + 1 ∧ v = q + 1 ∧ M p q ∧ Vs M t x y p q) ∨ (o = 45 ∧ ∃ p, u = p + 1 ∧ Vs M t x y p v) ∨ (o = 43 ∧ ∃ q, v = q + 1 ∧ Vs M t x y u q) := by
  rw [Vs_append] at h
  obtain ⟨p, q, h1, h2⟩ := h
  simp only [Vs] at h2
  rcases h2 with ⟨ho, hm, h3, h4⟩ | ⟨ho, h3, h4⟩ | ⟨ho, h3, h4⟩
  · exact Or.inl ⟨ho, p, q, h3.symm, h4.symm, hm, h1⟩
  · subst h4; exact Or.inr (Or.inl ⟨ho, p, h3.symm, h1⟩)
  · subst h3; exact Or.inr (Or.inr ⟨ho, q, h4.symm, h1⟩)

/-- The texts read backwards. -/
def Rev (M : Nat → Nat → Prop) (n m : Nat) : Nat → Nat → Prop := fun i j => i < n ∧ j < m ∧ M (n - 1 - i) (m - 1 - j)

theorem Vs_rev {M : Nat → Nat → Prop} {n m : Nat} {l : List Int} {x y u v : Nat} (h : Vs M l x y u v) (hu : u ≤ n) (hv : v ≤ m) :
    Vs (Rev M n m) l.reverse (n - u) (m - v) (n - x) (m - y) := by
  induction l generalizing x y with
  | nil => simp only [Vs] at h; simp only [List.reverse_nil, Vs]; omega
  | cons o t ih =>
    rw [List.reverse_cons, Vs_append]
    rcases h with ⟨ho, hm, h⟩ | ⟨ho, h⟩ | ⟨ho, h⟩ <;> have hle := Vs_le h <;> refine ⟨_, _, ih h, ?_⟩ <;> simp only [Vs]
    · refine Or.inl ⟨ho, ⟨by omega, by omega, ?_⟩, by omega, by omega⟩
      rw [show n - 1 - (n - (x + 1)) = x by omega, show m - 1 - (m - (y + 1)) = y by omega]
      exact hm
    · exact Or.inr (Or.inl ⟨ho, by omega, trivial⟩)
    · exact Or.inr (Or.inr ⟨ho, trivial, by omega⟩)

theorem Rev_rev {M : Nat → Nat → Prop} {n m i j : Nat} (h : Rev (Rev M n m) n m i j) : M i j := by
  obtain ⟨h1, h2, h3, h4, h5⟩ := h
  rw [show n - 1 - (n - 1 - i) = i by omega, show m - 1 - (m - 1 - j) = j by omega] at h5
  exact h5

theorem Vs_unrev {M : Nat → Nat → Prop} {n m : Nat} {l : List Int} {x y u v : Nat} (h : Vs (Rev M n m) l x y u v) (hu : u ≤ n) (hv : v ≤ m) :
    Vs M l.reverse (n - u) (m - v) (n - x) (m - y) :=
  Vs_mono (fun _ _ => Rev_rev) (Vs_rev h hu hv)

/-! ## how the distance to the end turns from point to point -/

theorem lip_y {M : Nat → Nat → Prop} {l : List Int} {x y n m : Nat} (h : Vs M l x y n m) (hy : y + 1 ≤ m) :
    ∃ l', Vs M l' x (y + 1) n m ∧ cost l' ≤ cost l + 1 := by
  induction l generalizing x y with
  | nil => simp only [Vs] at h; omega
  | cons o t ih =>
    rcases h with ⟨ho, hm, h⟩ | ⟨ho, h⟩ | ⟨ho, h⟩
    · exact ⟨45 :: t, Or.inr (Or.inl ⟨rfl, h⟩), by subst ho; simp [cost]; omega⟩
    · obtain ⟨l', h1, h2⟩ := ih h hy
      exact ⟨45 :: l', Or.inr (Or.inl ⟨rfl, h1⟩), by subst ho; simp [cost]; omega⟩
    · exact ⟨t, h, by subst ho; simp [cost]; omega⟩

theorem lip_x {M : Nat → Nat → Prop} {l : List Int} {x y n m : Nat} (h : Vs M l x y n m) (hx : x + 1 ≤ n) :
    ∃ l', Vs M l' (x + 1) y n m ∧ cost l' ≤ cost l + 1 := by
  induction l generalizing x y with
  | nil => simp only [Vs] at h; omega
  | cons o t ih =>
    rcases h with ⟨ho, hm, h⟩ | ⟨ho, h⟩ | ⟨ho, h⟩
    · exact ⟨43 :: t, Or.inr (Or.inr ⟨rfl, h⟩), by subst ho; simp [cost]; omega⟩
    · exact ⟨t, h, by subst ho; simp [cost]; omega⟩
    · obtain ⟨l', h1, h2⟩ := ih h hx
      exact ⟨43 :: l', Or.inr (Or.inr ⟨rfl, h1⟩), by subst ho; simp [cost]; omega⟩

/-- Along a diagonal the distance to the end does not grow. -/
theorem down_one {M : Nat → Nat → Prop} {l : List Int} {x y n m : Nat} (h : Vs M l x y n m) (hx : x + 1 ≤ n) (hy : y + 1 ≤ m) :
    ∃ l', Vs M l' (x + 1) (y + 1) n m ∧ cost l' ≤ cost l := by
  cases l with
  | nil => simp only [Vs] at h; omega
  | cons o t =>
    rcases h with ⟨ho, hm, h⟩ | ⟨ho, h⟩ | ⟨ho, h⟩
    · exact ⟨t, h, by subst ho; simp [cost]⟩
    · obtain ⟨l', h1, h2⟩ := lip_y h hy
      exact ⟨l', h1, by subst ho; simp [cost]; omega⟩
    · obtain ⟨l', h1, h2⟩ := lip_x h hx
      exact ⟨l', h1, by subst ho; simp [cost]; omega⟩

theorem down {M : Nat → Nat → Prop} (j : Nat) {l : List Int} {x y n m : Nat} (h : Vs M l x y n m) (hx : x + j ≤ n) (hy : y + j ≤ m) :
    ∃ l', Vs M l' (x + j) (y + j) n m ∧ cost l' ≤ cost l := by
  induction j with
  | zero => exact ⟨l, h, Nat.le_refl _⟩
  | succ j ih =>
    obtain ⟨l', h1, h2⟩ := ih (by omega) (by omega)
    obtain ⟨l2, h3, h4⟩ := down_one h1 (by omega) (by omega)
    exact ⟨l2, h3, by omega⟩

/-! ## the furthest point of a diagonal -/

/-- 'e' is how far along 'from' the scripts of cost at most d that start at the corner come on diagonal k. -/
def Far (M : Nat → Nat → Prop) (d : Nat) (k e : Int) : Prop :=
  (∃ (x y : Nat) (l : List Int), e = x ∧ (x : Int) - y = k ∧ Vs M l 0 0 x y ∧ cost l ≤ d) ∧
    ∀ (x y : Nat) (l : List Int), (x : Int) - y = k → Vs M l 0 0 x y → cost l ≤ d → (x : Int) ≤ e

theorem snoc_ind {P : List Int → Prop} (h0 : P []) (h1 : ∀ t o, P t → P (t ++ [o])) (l : List Int) : P l := by
  have : P l.reverse.reverse := by
    induction l.reverse with
    | nil => exact h0
    | cons o t ih => rw [List.reverse_cons]; exact h1 _ _ ih
  rwa [List.reverse_reverse] at this

/-- The scripts to diagonal k at cost d come no further than 's', where the last change ended, and the matches behind it. -/
theorem far_step {M : Nat → Nat → Prop} {d : Nat} {k : Int} (s e : Nat) (ys ye : Nat) (hs : (s : Int) - ys = k) (he : (e : Int) - ye = k) (hse : s ≤ e)
    (hrun : ∀ i, i < e - s → M (s + i) (ys + i)) (hstop : ¬ M e ye)
    (hreach : ∃ l, Vs M l 0 0 s ys ∧ cost l ≤ d)
    (hleft : ∀ (x y : Nat) (l : List Int), (x : Int) - y = k - 1 → Vs M l 0 0 x y → cost l + 1 ≤ d → x + 1 ≤ s)
    (hdown : ∀ (x y : Nat) (l : List Int), (x : Int) - y = k + 1 → Vs M l 0 0 x y → cost l + 1 ≤ d → x ≤ s) : Far M d k e := by
  constructor
  · obtain ⟨l, h1, h2⟩ := hreach
    refine ⟨e, ye, l ++ List.replicate (e - s) 32, rfl, he, ?_, ?_⟩
    · rw [Vs_append]
      refine ⟨s, ys, h1, ?_⟩
      have hh : ∀ (c a b : Nat), (∀ i, i < c → M (a + i) (b + i)) → Vs M (List.replicate c 32) a b (a + c) (b + c) := by
        intro c
        induction c with
        | zero => intro a b _; exact ⟨rfl, rfl⟩
        | succ c ih =>
          intro a b hm
          refine Or.inl ⟨rfl, hm 0 (by omega), ?_⟩
          have := ih (a + 1) (b + 1) (fun i hi => by have := hm (i + 1) (by omega); rw [show a + 1 + i = a + (i + 1) by omega, show b + 1 + i = b + (i + 1) by omega]; exact this)
          rw [show a + (c + 1) = a + 1 + c by omega, show b + (c + 1) = b + 1 + c by omega]
          exact this
      have := hh (e - s) s ys hrun
      rw [show s + (e - s) = e by omega, show ys + (e - s) = ye by omega] at this
      exact this
    · have hc : ∀ c : Nat, cost (List.replicate c 32) = 0 := by
        intro c
        induction c with
        | zero => rfl
        | succ c ih => simp [List.replicate_succ, cost, ih]
      rw [cost_append, hc]; omega
  · have key : ∀ l : List Int, ∀ x y : Nat, (x : Int) - y = k → Vs M l 0 0 x y → cost l ≤ d → x ≤ s ∨ ∀ i j : Nat, (i : Int) - j = k → s ≤ i → i < x → M i j := by
      intro l
      induction l using snoc_ind with
      | h0 => intro x y _ h _; simp only [Vs] at h; exact Or.inl (by omega)
      | h1 t o ih =>
        intro x y hk h hc
        rw [cost_append] at hc
        rcases Vs_last h with ⟨ho, p, q, hp, hq, hm, h1⟩ | ⟨ho, p, hp, h1⟩ | ⟨ho, q, hq, h1⟩
        · rcases ih p q (by omega) h1 (by omega) with h2 | h2
          · by_cases hps : p < s
            · exact Or.inl (by omega)
            · refine Or.inr fun i j hi h3 h4 => ?_
              rw [show i = p by omega, show j = q by omega]; exact hm
          · refine Or.inr fun i j hi h3 h4 => ?_
            by_cases hip : i < p
            · exact h2 i j hi h3 hip
            · rw [show i = p by omega, show j = q by omega]; exact hm
        · subst ho
          have := hleft p y t (by omega) h1 (by simp [cost] at hc; omega)
          exact Or.inl (by omega)
        · subst ho
          have := hdown x q t (by omega) h1 (by simp [cost] at hc; omega)
          exact Or.inl (by omega)
    intro x y l hk h hc
    rcases key l x y hk h hc with h1 | h1
    · omega
    · by_cases hx : x ≤ e
      · omega
      · exact absurd (h1 e ye he hse (by omega)) hstop

/-- The first step: the matches from the corner on. -/
theorem far_zero {M : Nat → Nat → Prop} (e : Nat) (hrun : ∀ i, i < e → M i i) (hstop : ¬ M e e) : Far M 0 0 e :=
  far_step 0 e 0 e (by omega) (by omega) (by omega) (fun i hi => by simpa using hrun i (by omega)) hstop ⟨[], ⟨rfl, rfl⟩, Nat.le_refl _⟩
    (fun _ _ _ _ _ h => by omega) (fun _ _ _ _ _ h => by omega)

theorem replicate_cost (c : Nat) : cost (List.replicate c 32) = 0 := by
  induction c with
  | zero => rfl
  | succ c ih => simp [List.replicate_succ, cost, ih]

theorem replicate_kept (c : Nat) : kept (List.replicate c 32) = c := by
  induction c with
  | zero => rfl
  | succ c ih => simp [List.replicate_succ, kept, ih]; omega

theorem Vs_run {M : Nat → Nat → Prop} (c : Nat) (a b : Nat) (hm : ∀ i, i < c → M (a + i) (b + i)) : Vs M (List.replicate c 32) a b (a + c) (b + c) := by
  induction c generalizing a b with
  | zero => exact ⟨rfl, rfl⟩
  | succ c ih =>
    refine Or.inl ⟨rfl, hm 0 (by omega), ?_⟩
    have := ih (a + 1) (b + 1) (fun i hi => by have := hm (i + 1) (by omega); rw [show a + 1 + i = a + (i + 1) by omega, show b + 1 + i = b + (i + 1) by omega]; exact this)
    rw [show a + (c + 1) = a + 1 + c by omega, show b + (c + 1) = b + 1 + c by omega]
    exact this

theorem split_cost (l : List Int) (d : Nat) (h : d ≤ cost l) : ∃ a b, l = a ++ b ∧ cost a = d := by
  induction l generalizing d with
  | nil => simp only [cost] at h; exact ⟨[], [], rfl, by simp only [cost]; omega⟩
  | cons o t ih =>
    cases d with
    | zero => exact ⟨[], o :: t, rfl, rfl⟩
    | succ d =>
      by_cases ho : o = 32
      · simp only [cost, ho, if_true] at h
        obtain ⟨a, b, h1, h2⟩ := ih (d + 1) (by omega)
        exact ⟨o :: a, b, by rw [h1]; rfl, by simp only [cost, ho, if_true]; omega⟩
      · simp only [cost, ho, if_false] at h
        obtain ⟨a, b, h1, h2⟩ := ih d (by omega)
        exact ⟨o :: a, b, by rw [h1]; rfl, by simp only [cost, ho, if_false]; omega⟩

/-- No script from corner to corner costs less than T. -/
def Least (M : Nat → Nat → Prop) (n m T : Nat) : Prop := ∀ l, Vs M l 0 0 n m → T ≤ cost l

/-- THE SEARCHES MEET: where a script costs just d + e, the furthest points at d from the start and at e from the end stand past one another on some diagonal. -/
theorem meet {M : Nat → Nat → Prop} {n m d e : Nat} {l : List Int} (h : Vs M l 0 0 n m) (hc : cost l = d + e) :
    ∃ k : Int, k ≤ d ∧ -(d : Int) ≤ k ∧ (k - d) % 2 = 0 ∧ ((n : Int) - m - k) ≤ e ∧ -(e : Int) ≤ (n : Int) - m - k ∧
      ∀ f b : Int, Far M d k f → Far (Rev M n m) e ((n : Int) - m - k) b → (n : Int) - b ≤ f := by
  obtain ⟨a, b, hl, ha⟩ := split_cost l d (by omega)
  subst hl
  rw [Vs_append] at h
  rw [cost_append] at hc
  obtain ⟨p, q, h1, h2⟩ := h
  have d1 := Vs_diag h1
  have d2 := Vs_diag h2
  have c1 := Vs_count h1
  have l2 := Vs_le h2
  refine ⟨(p : Int) - q, by omega, by omega, by omega, by omega, by omega, ?_⟩
  intro f bb hf hb
  have e1 := hf.2 p q a rfl h1 (by omega)
  have h3 := Vs_rev h2 (Nat.le_refl n) (Nat.le_refl m)
  rw [Nat.sub_self, Nat.sub_self] at h3
  have e2 := hb.2 (n - p) (m - q) b.reverse (by omega) h3 (by rw [cost_reverse]; omega)
  omega

/-- A script that comes past a text's end has paid for that: what it paid within the texts is as much less. -/
theorem past_x {M : Nat → Nat → Prop} {n m : Nat} (hM : ∀ i j, M i j → i < n ∧ j < m) {l : List Int} {y : Nat} (j : Nat) (h : Vs M l 0 0 (n + j) y) :
    ∃ l', Vs M l' 0 0 n y ∧ cost l' + j ≤ cost l := by
  induction l using snoc_ind generalizing j y with
  | h0 => simp only [Vs] at h; refine ⟨[], ?_, ?_⟩ <;> simp only [Vs, cost] <;> omega
  | h1 t o ih =>
    cases j with
    | zero => exact ⟨t ++ [o], h, by omega⟩
    | succ j =>
      rcases Vs_last h with ⟨ho, p, q, hp, hq, hm, h1⟩ | ⟨ho, p, hp, h1⟩ | ⟨ho, q, hq, h1⟩
      · have := hM _ _ hm; omega
      · rw [show p = n + j by omega] at h1
        obtain ⟨l', h2, h3⟩ := ih j h1
        exact ⟨l', h2, by rw [cost_append]; subst ho; simp [cost]; omega⟩
      · obtain ⟨l', h2, h3⟩ := ih (j + 1) h1
        refine ⟨l' ++ [43], ?_, ?_⟩
        · rw [Vs_append]; exact ⟨_, _, h2, Or.inr (Or.inr ⟨rfl, rfl, hq.symm⟩)⟩
        · rw [cost_append, cost_append]; subst ho; simp [cost]; omega

theorem past_y {M : Nat → Nat → Prop} {n m : Nat} (hM : ∀ i j, M i j → i < n ∧ j < m) {l : List Int} {x : Nat} (j : Nat) (h : Vs M l 0 0 x (m + j)) :
    ∃ l', Vs M l' 0 0 x m ∧ cost l' + j ≤ cost l := by
  induction l using snoc_ind generalizing j x with
  | h0 => simp only [Vs] at h; refine ⟨[], ?_, ?_⟩ <;> simp only [Vs, cost] <;> omega
  | h1 t o ih =>
    cases j with
    | zero => exact ⟨t ++ [o], h, by omega⟩
    | succ j =>
      rcases Vs_last h with ⟨ho, p, q, hp, hq, hm, h1⟩ | ⟨ho, p, hp, h1⟩ | ⟨ho, q, hq, h1⟩
      · have := hM _ _ hm; omega
      · obtain ⟨l', h2, h3⟩ := ih (j + 1) h1
        refine ⟨l' ++ [45], ?_, ?_⟩
        · rw [Vs_append]; exact ⟨_, _, h2, Or.inr (Or.inl ⟨rfl, hp.symm, rfl⟩)⟩
        · rw [cost_append, cost_append]; subst ho; simp [cost]; omega
      · rw [show q = m + j by omega] at h1
        obtain ⟨l', h2, h3⟩ := ih j h1
        exact ⟨l', h2, by rw [cost_append]; subst ho; simp [cost]; omega⟩

theorem add_x {M : Nat → Nat → Prop} (c a b : Nat) : Vs M (List.replicate c 45) a b (a + c) b := by
  induction c generalizing a with
  | zero => exact ⟨rfl, rfl⟩
  | succ c ih =>
    refine Or.inr (Or.inl ⟨rfl, ?_⟩)
    have := ih (a + 1)
    rw [show a + 1 + c = a + (c + 1) by omega] at this
    exact this

theorem add_y {M : Nat → Nat → Prop} (c a b : Nat) : Vs M (List.replicate c 43) a b a (b + c) := by
  induction c generalizing b with
  | zero => exact ⟨rfl, rfl⟩
  | succ c ih =>
    refine Or.inr (Or.inr ⟨rfl, ?_⟩)
    have := ih (b + 1)
    rw [show b + 1 + c = b + (c + 1) by omega] at this
    exact this

theorem rep_cost (c : Nat) (o : Int) (ho : o ≠ 32) : cost (List.replicate c o) = c := by
  induction c with
  | zero => rfl
  | succ c ih => simp [List.replicate_succ, cost, ih, ho]; omega

/-- THE PLACE WHERE THEY MEET IS GOOD: a point (x, y) that the start reaches at d, on whose diagonal the furthest point at e from the end is no further on: it lies in the texts, and the end is e away. -/
theorem good {M : Nat → Nat → Prop} {n m d e : Nat} (hM : ∀ i j, M i j → i < n ∧ j < m) (hT : Least M n m (d + e)) (he : e ≤ d) (hde : d ≤ e + 1) (hd : 1 ≤ d)
    {x y : Nat} {l : List Int} (h : Vs M l 0 0 x y) (hc : cost l ≤ d) {b : Int}
    (hb : Far (Rev M n m) e ((n : Int) - m - ((x : Int) - y)) b) (hk : (n : Int) - m - ((x : Int) - y) ≤ e ∧ -(e : Int) ≤ (n : Int) - m - ((x : Int) - y)) (hov : (n : Int) - b ≤ x) :
    x ≤ n ∧ y ≤ m ∧ ∃ l', Vs M l' x y n m ∧ cost l' ≤ e := by
  have hin : x ≤ n ∧ y ≤ m := by
    by_cases hx : x ≤ n
    · by_cases hy : y ≤ m
      · exact ⟨hx, hy⟩
      · exfalso
        rw [show y = m + (y - m) by omega] at h
        obtain ⟨l', h1, h2⟩ := past_y hM (y - m) h
        have h3 : Vs M (l' ++ List.replicate (n - x) 45) 0 0 n m := by
          rw [Vs_append]
          refine ⟨_, _, h1, ?_⟩
          have := add_x (M := M) (n - x) x m
          rwa [show x + (n - x) = n by omega] at this
        have h4 := hT _ h3
        rw [cost_append, rep_cost _ _ (by decide)] at h4
        omega
    · exfalso
      rw [show x = n + (x - n) by omega] at h
      obtain ⟨l', h1, h2⟩ := past_x hM (x - n) h
      by_cases hy : y ≤ m
      · have h3 : Vs M (l' ++ List.replicate (m - y) 43) 0 0 n m := by
          rw [Vs_append]
          refine ⟨_, _, h1, ?_⟩
          have := add_y (M := M) (m - y) n y
          rwa [show y + (m - y) = m by omega] at this
        have h4 := hT _ h3
        rw [cost_append, rep_cost _ _ (by decide)] at h4
        omega
      · rw [show y = m + (y - m) by omega] at h1
        obtain ⟨l2, h3, h4⟩ := past_y hM (y - m) h1
        have h5 := hT _ h3
        omega
  refine ⟨hin.1, hin.2, ?_⟩
  obtain ⟨⟨bx, bz, lb, hbx, hbk, hbv, hbc⟩, _⟩ := hb
  have hMr : ∀ i j, Rev M n m i j → i < n ∧ j < m := fun i j h => ⟨h.1, h.2.1⟩
  have hdg := Vs_diag h
  by_cases h1 : bx ≤ n
  · by_cases h2 : bz ≤ m
    · have h3 := Vs_unrev hbv h1 h2
      rw [Nat.sub_zero, Nat.sub_zero] at h3
      obtain ⟨l', h4, h5⟩ := down (x - (n - bx)) h3 (by omega) (by omega)
      rw [show n - bx + (x - (n - bx)) = x by omega, show m - bz + (x - (n - bx)) = y by omega] at h4
      exact ⟨l', h4, by rw [cost_reverse] at h5; omega⟩
    · exfalso
      rw [show bz = m + (bz - m) by omega] at hbv
      obtain ⟨l', h3, h4⟩ := past_y hMr (bz - m) hbv
      have h5 : Vs (Rev M n m) (l' ++ List.replicate (n - bx) 45) 0 0 n m := by
        rw [Vs_append]
        refine ⟨_, _, h3, ?_⟩
        have := add_x (M := Rev M n m) (n - bx) bx m
        rwa [show bx + (n - bx) = n by omega] at this
      have h6 := Vs_unrev h5 (Nat.le_refl _) (Nat.le_refl _)
      rw [Nat.sub_self, Nat.sub_self, Nat.sub_zero, Nat.sub_zero] at h6
      have h7 := hT _ h6
      rw [cost_reverse, cost_append, rep_cost _ _ (by decide)] at h7
      omega
  · exfalso
    rw [show bx = n + (bx - n) by omega] at hbv
    obtain ⟨l', h3, h4⟩ := past_x hMr (bx - n) hbv
    by_cases h2 : bz ≤ m
    · have h5 : Vs (Rev M n m) (l' ++ List.replicate (m - bz) 43) 0 0 n m := by
        rw [Vs_append]
        refine ⟨_, _, h3, ?_⟩
        have := add_y (M := Rev M n m) (m - bz) n bz
        rwa [show bz + (m - bz) = m by omega] at this
      have h6 := Vs_unrev h5 (Nat.le_refl _) (Nat.le_refl _)
      rw [Nat.sub_self, Nat.sub_self, Nat.sub_zero, Nat.sub_zero] at h6
      have h7 := hT _ h6
      rw [cost_reverse, cost_append, rep_cost _ _ (by decide)] at h7
      omega
    · rw [show bz = m + (bz - m) by omega] at h3
      obtain ⟨l2, h5, h6⟩ := past_y hMr (bz - m) h3
      have h7 := Vs_unrev h5 (Nat.le_refl _) (Nat.le_refl _)
      rw [Nat.sub_self, Nat.sub_self, Nat.sub_zero, Nat.sub_zero] at h7
      have h8 := hT _ h7
      rw [cost_reverse] at h8
      omega

theorem Far_unique {M : Nat → Nat → Prop} {d : Nat} {k e e' : Int} (h : Far M d k e) (h' : Far M d k e') : e = e' := by
  obtain ⟨⟨x, y, l, h1, h2, h3, h4⟩, h5⟩ := h
  obtain ⟨⟨x', y', l', h1', h2', h3', h4'⟩, h5'⟩ := h'
  have a := h5 x' y' l' h2' h3' h4'
  have b := h5' x y l h2 h3 h4
  omega

theorem Rev_Rev {M : Nat → Nat → Prop} {n m : Nat} (hM : ∀ i j, M i j → i < n ∧ j < m) : Rev (Rev M n m) n m = M := by
  funext i j
  refine propext ⟨Rev_rev, fun h => ?_⟩
  have := hM i j h
  refine ⟨by omega, by omega, by omega, by omega, ?_⟩
  rw [show n - 1 - (n - 1 - i) = i by omega, show m - 1 - (m - 1 - j) = j by omega]
  exact h

theorem Least_rev {M : Nat → Nat → Prop} {n m T : Nat} (h : Least M n m T) : Least (Rev M n m) n m T := by
  intro l hl
  have h1 := Vs_unrev hl (Nat.le_refl n) (Nat.le_refl m)
  rw [Nat.sub_self, Nat.sub_self, Nat.sub_zero, Nat.sub_zero] at h1
  have := h _ h1
  rwa [cost_reverse] at this

theorem Least_unrev {M : Nat → Nat → Prop} {n m T : Nat} (h : Least (Rev M n m) n m T) : Least M n m T := by
  intro l hl
  have h1 := Vs_rev hl (Nat.le_refl n) (Nat.le_refl m)
  rw [Nat.sub_self, Nat.sub_self, Nat.sub_zero, Nat.sub_zero] at h1
  have := h _ h1
  rwa [cost_reverse] at this

/-- What the search's one step starts from, on diagonal k at cost d, 'fw' being how far the diagonals came at d - 1. -/
def from' (d k : Int) (fl fr : Int) : Int := if k = -d ∨ (k ≠ d ∧ fl < fr) then fr else fl + 1

theorem far_start {M : Nat → Nat → Prop} {d : Nat} {k fl fr : Int} (_hk1 : -(d + 1 : Int) ≤ k) (_hk2 : k ≤ d + 1) (hpar : (k - (d + 1)) % 2 = 0)
    (hl : k ≠ -(d + 1 : Int) → Far M d (k - 1) fl) (hr : k ≠ d + 1 → Far M d (k + 1) fr) :
    ∃ s ys : Nat, from' (d + 1) k fl fr = s ∧ (s : Int) - ys = k ∧ (∃ l, Vs M l 0 0 s ys ∧ cost l ≤ d + 1) ∧
      (∀ (x y : Nat) (l : List Int), (x : Int) - y = k - 1 → Vs M l 0 0 x y → cost l + 1 ≤ d + 1 → x + 1 ≤ s) ∧
      (∀ (x y : Nat) (l : List Int), (x : Int) - y = k + 1 → Vs M l 0 0 x y → cost l + 1 ≤ d + 1 → x ≤ s) := by
  have goR : ∀ (h : k ≠ d + 1), k = -(d + 1 : Int) ∨ fl < fr → from' (d + 1) k fl fr = fr → ∃ s ys : Nat, from' (d + 1) k fl fr = s ∧ (s : Int) - ys = k ∧ (∃ l, Vs M l 0 0 s ys ∧ cost l ≤ d + 1) ∧
      (∀ (x y : Nat) (l : List Int), (x : Int) - y = k - 1 → Vs M l 0 0 x y → cost l + 1 ≤ d + 1 → x + 1 ≤ s) ∧
      (∀ (x y : Nat) (l : List Int), (x : Int) - y = k + 1 → Vs M l 0 0 x y → cost l + 1 ≤ d + 1 → x ≤ s) := by
    intro h hor e
    obtain ⟨⟨x, y, l, h1, h2, h3, h4⟩, h5⟩ := hr h
    refine ⟨x, y + 1, by omega, by omega, ⟨l ++ [43], ?_, ?_⟩, ?_, ?_⟩
    · rw [Vs_append]; exact ⟨x, y, h3, Or.inr (Or.inr ⟨rfl, rfl, rfl⟩)⟩
    · rw [cost_append]; simp [cost]; omega
    · intro x' y' l' hk' hv hc
      rcases hor with h6 | h6
      · have := Vs_diag hv; omega
      · by_cases h7 : k = -(d + 1 : Int)
        · have := Vs_diag hv; omega
        · have := (hl h7).2 x' y' l' hk' hv (by omega)
          omega
    · intro x' y' l' hk' hv hc
      have := h5 x' y' l' hk' hv (by omega)
      omega
  by_cases hc : k = -(d + 1 : Int) ∨ (k ≠ d + 1 ∧ fl < fr)
  · refine goR ?_ ?_ ?_
    · rcases hc with h | h <;> omega
    · rcases hc with h | h
      · exact Or.inl h
      · exact Or.inr h.2
    · simp only [from', hc, if_true]
  · have e : from' (d + 1) k fl fr = fl + 1 := by simp only [from', hc, if_false]
    have h0 : k ≠ -(d + 1 : Int) := fun h => hc (Or.inl h)
    obtain ⟨⟨x, y, l, h1, h2, h3, h4⟩, h5⟩ := hl h0
    refine ⟨x + 1, y, by omega, by omega, ⟨l ++ [45], ?_, ?_⟩, ?_, ?_⟩
    · rw [Vs_append]; exact ⟨x, y, h3, Or.inr (Or.inl ⟨rfl, rfl, rfl⟩)⟩
    · rw [cost_append]; simp [cost]; omega
    · intro x' y' l' hk' hv hc'
      have := h5 x' y' l' hk' hv (by omega)
      omega
    · intro x' y' l' hk' hv hc'
      by_cases h7 : k = d + 1
      · have := Vs_diag hv; omega
      · have h8 : ¬ fl < fr := fun h => hc (Or.inr ⟨h7, h⟩)
        have := (hr h7).2 x' y' l' hk' hv (by omega)
        omega

/-- One step of the search, told whole: from where it starts, along the matches, to where they end. -/
theorem far_next {M : Nat → Nat → Prop} {d : Nat} {k fl fr : Int} (hk1 : -(d + 1 : Int) ≤ k) (hk2 : k ≤ d + 1) (hpar : (k - (d + 1)) % 2 = 0)
    (hl : k ≠ -(d + 1 : Int) → Far M d (k - 1) fl) (hr : k ≠ d + 1 → Far M d (k + 1) fr) {s ys c : Nat} (hs : from' (d + 1) k fl fr = s) (hy : (s : Int) - ys = k)
    (hrun : ∀ i, i < c → M (s + i) (ys + i)) (hstop : ¬ M (s + c) (ys + c)) : Far M (d + 1) k ((s : Int) + c) ∧ ∃ l, Vs M l 0 0 s ys ∧ cost l ≤ d + 1 := by
  obtain ⟨s', ys', h1, h2, h3, h4, h5⟩ := far_start hk1 hk2 hpar hl hr
  have e1 : s' = s := by omega
  have e2 : ys' = ys := by omega
  subst e1 e2
  refine ⟨?_, h3⟩
  have := far_step (d := d + 1) s' (s' + c) ys' (ys' + c) h2 (by omega) (by omega) (fun i hi => hrun i (by omega)) hstop h3 h4 h5
  rwa [show ((s' + c : Nat) : Int) = (s' : Int) + c by omega] at this

/-- How far a step can have come. -/
theorem far_bound {M : Nat → Nat → Prop} {n m d : Nat} (hM : ∀ i j, M i j → i < n ∧ j < m) {k e : Int} (h : Far M d k e) : 0 ≤ e ∧ e ≤ n + d ∧ k ≤ e ∧ e - k ≤ m + d := by
  obtain ⟨⟨x, y, l, h1, h2, h3, h4⟩, _⟩ := h
  have hx : x ≤ n + d := by
    by_cases hx : x ≤ n
    · omega
    · rw [show x = n + (x - n) by omega] at h3
      obtain ⟨l', h5, h6⟩ := past_x hM (x - n) h3
      omega
  have hy : y ≤ m + d := by
    by_cases hy : y ≤ m
    · omega
    · rw [show y = m + (y - m) by omega] at h3
      obtain ⟨l', h5, h6⟩ := past_y hM (y - m) h3
      omega
  omega

/-- Where the searches have not met at (d, e) nor before, every script costs two more. -/
theorem least_next {M : Nat → Nat → Prop} {n m d e : Nat} (hT : Least M n m (d + e)) (hpar : (n + m + d + e) % 2 = 0)
    (hno : ∀ k : Int, k ≤ d → -(d : Int) ≤ k → (k - d) % 2 = 0 → ((n : Int) - m - k) ≤ e → -(e : Int) ≤ (n : Int) - m - k →
      ∃ f b : Int, Far M d k f ∧ Far (Rev M n m) e ((n : Int) - m - k) b ∧ f < (n : Int) - b) : Least M n m (d + e + 2) := by
  intro l hl
  have h1 := hT l hl
  have h2 := Vs_count hl
  by_cases h3 : cost l = d + e
  · exfalso
    obtain ⟨k, a1, a2, a3, a4, a5, a6⟩ := meet hl h3
    obtain ⟨f, b, h4, h5, h6⟩ := hno k a1 a2 a3 a4 a5
    have := a6 f b h4 h5
    omega
  · omega

/-- The first lines differ and the last lines differ: two changes at least. -/
theorem least_two {M : Nat → Nat → Prop} {n m : Nat} (hn : 1 ≤ n) (hm : 1 ≤ m) (h0 : ¬ M 0 0) (h1 : ¬ M (n - 1) (m - 1)) : Least M n m 2 := by
  intro l hl
  cases l with
  | nil => simp only [Vs] at hl; omega
  | cons o t =>
    have ho : o ≠ 32 := by
      rintro rfl
      rcases hl with ⟨_, h, _⟩ | ⟨h, _⟩ | ⟨h, _⟩
      · exact h0 h
      · omega
      · omega
    have ht : ∃ t' o', t = t' ++ [o'] ∧ o' ≠ 32 := by
      refine ⟨t.dropLast, t.getLastD 0, ?_⟩
      have hne : t ≠ [] := by
        rintro rfl
        simp only [Vs] at hl
        rcases hl with ⟨_, h, _⟩ | ⟨_, h⟩ | ⟨_, h⟩
        · exact h0 h
        · omega
        · omega
      have hd : t = t.dropLast ++ [t.getLastD 0] := by
        rw [List.getLastD_eq_getLast?, List.getLast?_eq_some_getLast hne]
        exact (List.dropLast_concat_getLast hne).symm
      refine ⟨hd, ?_⟩
      intro h32
      rw [hd, h32] at hl
      rw [show o :: (t.dropLast ++ [32]) = (o :: t.dropLast) ++ [32] from rfl] at hl
      rcases Vs_last hl with ⟨_, p, q, hp, hq, hmm, _⟩ | ⟨h, _⟩ | ⟨h, _⟩
      · apply h1; rw [hp, hq]; exact hmm
      · omega
      · omega
    obtain ⟨t', o', rfl, ho'⟩ := ht
    simp only [cost, cost_append, ho, ho', if_false]
    omega

/-- A good place to part the texts: a snake on a least script, with changes ahead of it and behind it. -/
def Mid (M : Nat → Nat → Prop) (n m x y u v : Nat) : Prop :=
  ∃ d e, Least M n m (d + e) ∧ 1 ≤ d ∧ 1 ≤ e ∧ (∃ l, Vs M l 0 0 x y ∧ cost l ≤ d) ∧ x ≤ u ∧ u + y = v + x ∧ (∀ i, i < u - x → M (x + i) (y + i)) ∧ u ≤ n ∧ v ≤ m ∧
    ∃ l, Vs M l u v n m ∧ cost l ≤ e

/-- The forward search has met the backward one. -/
theorem mid_fwd {M : Nat → Nat → Prop} {n m d e : Nat} (hM : ∀ i j, M i j → i < n ∧ j < m) (hT : Least M n m (d + e)) (he : e ≤ d) (hde : d ≤ e + 1) (he1 : 1 ≤ e)
    {s ys c : Nat} (hrun : ∀ i, i < c → M (s + i) (ys + i)) (hreach : ∃ l, Vs M l 0 0 s ys ∧ cost l ≤ d) {b : Int}
    (hb : Far (Rev M n m) e ((n : Int) - m - ((s : Int) - ys)) b) (hk : (n : Int) - m - ((s : Int) - ys) ≤ e ∧ -(e : Int) ≤ (n : Int) - m - ((s : Int) - ys)) (hov : (n : Int) - b ≤ (s : Int) + c) :
    Mid M n m s ys (s + c) (ys + c) := by
  obtain ⟨l, h1, h2⟩ := hreach
  have h3 : Vs M (l ++ List.replicate c 32) 0 0 (s + c) (ys + c) := by
    rw [Vs_append]; exact ⟨s, ys, h1, Vs_run c s ys hrun⟩
  have h4 := good hM hT he hde (by omega) h3 (by rw [cost_append, replicate_cost]; omega) (b := b)
    (by rw [show (n : Int) - m - (((s + c : Nat) : Int) - ((ys + c : Nat) : Int)) = (n : Int) - m - ((s : Int) - ys) by omega]; exact hb) (by omega) (by omega)
  obtain ⟨h5, h6, h7⟩ := h4
  exact ⟨d, e, hT, by omega, he1, ⟨l, h1, h2⟩, by omega, by omega, fun i hi => hrun i (by omega), h5, h6, h7⟩

/-- The backward search has met the forward one: the snake is told from the start again. -/
theorem mid_bwd {M : Nat → Nat → Prop} {n m d : Nat} (hM : ∀ i j, M i j → i < n ∧ j < m) (hT : Least M n m (d + d)) (hd1 : 1 ≤ d)
    {s ys c : Nat} (hrun : ∀ i, i < c → Rev M n m (s + i) (ys + i)) (hreach : ∃ l, Vs (Rev M n m) l 0 0 s ys ∧ cost l ≤ d) {f : Int}
    (hf : Far M d ((n : Int) - m - ((s : Int) - ys)) f) (hk : (n : Int) - m - ((s : Int) - ys) ≤ d ∧ -(d : Int) ≤ (n : Int) - m - ((s : Int) - ys)) (hov : (n : Int) - ((s : Int) + c) ≤ f) :
    s + c ≤ n ∧ ys + c ≤ m ∧ Mid M n m (n - (s + c)) (m - (ys + c)) (n - s) (m - ys) := by
  have hMr : ∀ i j, Rev M n m i j → i < n ∧ j < m := fun i j h => ⟨h.1, h.2.1⟩
  have hR := mid_fwd hMr (Least_rev hT) (Nat.le_refl d) (by omega) hd1 hrun hreach (b := f) (by rw [Rev_Rev hM]; exact hf) hk (by omega)
  obtain ⟨d', e', h1, h2, h3, ⟨l, h4, h5⟩, h6, h7, h8, h9, h10, l', h11, h12⟩ := hR
  refine ⟨h9, h10, e', d', ?_, h3, h2, ?_, by omega, by omega, ?_, by omega, by omega, ?_⟩
  · have := Least_unrev h1; rwa [Nat.add_comm e' d']
  · have := Vs_unrev h11 (Nat.le_refl _) (Nat.le_refl _)
    rw [Nat.sub_self, Nat.sub_self] at this
    exact ⟨_, this, by rw [cost_reverse]; exact h12⟩
  · intro i hi
    have := hrun (c - 1 - i) (by omega)
    obtain ⟨a1, a2, a3⟩ := this
    rw [show n - (s + c) + i = n - 1 - (s + (c - 1 - i)) by omega, show m - (ys + c) + i = m - 1 - (ys + (c - 1 - i)) by omega]
    exact a3
  · have := Vs_unrev h4 (by omega) (by omega)
    rw [Nat.sub_zero, Nat.sub_zero] at this
    exact ⟨_, this, by rw [cost_reverse]; exact h5⟩

/-! ## the parts put together -/

def Best (M : Nat → Nat → Prop) (l : List Int) (x y u v : Nat) : Prop := Vs M l x y u v ∧ ∀ l', Vs M l' x y u v → cost l ≤ cost l'

theorem up_one {M : Nat → Nat → Prop} {l : List Int} {x y u v : Nat} (h : Vs M l x y (u + 1) (v + 1)) (hx : x ≤ u) (hy : y ≤ v) :
    ∃ l', Vs M l' x y u v ∧ cost l' ≤ cost l := by
  have h1 := Vs_rev h (Nat.le_refl _) (Nat.le_refl _)
  rw [Nat.sub_self, Nat.sub_self] at h1
  obtain ⟨l', h2, h3⟩ := down_one h1 (by omega) (by omega)
  have h4 := Vs_unrev h2 (by omega) (by omega)
  rw [show u + 1 - (u + 1 - x) = x by omega, show v + 1 - (v + 1 - y) = y by omega] at h4
  exact ⟨_, h4, by rw [cost_reverse]; rw [cost_reverse] at h3; exact h3⟩

theorem best_head {M : Nat → Nat → Prop} {l : List Int} {x y u v : Nat} (hm : M x y) (h : Best M l (x + 1) (y + 1) u v) : Best M (32 :: l) x y u v := by
  have hle := Vs_le h.1
  refine ⟨Or.inl ⟨rfl, hm, h.1⟩, fun l' h' => ?_⟩
  obtain ⟨l2, h2, h3⟩ := down_one h' (by omega) (by omega)
  have := h.2 l2 h2
  simp [cost]; omega

theorem best_tail {M : Nat → Nat → Prop} {l : List Int} {x y u v : Nat} (hm : M u v) (h : Best M l x y u v) : Best M (l ++ [32]) x y (u + 1) (v + 1) := by
  have hle := Vs_le h.1
  refine ⟨by rw [Vs_append]; exact ⟨u, v, h.1, Or.inl ⟨rfl, hm, rfl, rfl⟩⟩, fun l' h' => ?_⟩
  obtain ⟨l2, h2, h3⟩ := up_one h' (by omega) (by omega)
  have := h.2 l2 h2
  simp [cost_append, cost]; omega

theorem best_heads {M : Nat → Nat → Prop} (c : Nat) {l : List Int} {x y u v : Nat} (hm : ∀ i, i < c → M (x + i) (y + i)) (h : Best M l (x + c) (y + c) u v) : Best M (List.replicate c 32 ++ l) x y u v := by
  induction c generalizing x y with
  | zero => simpa using h
  | succ c ih =>
    rw [List.replicate_succ, List.cons_append]
    refine best_head (hm 0 (by omega)) (ih (fun i hi => ?_) ?_)
    · have := hm (i + 1) (by omega)
      rwa [show x + 1 + i = x + (i + 1) by omega, show y + 1 + i = y + (i + 1) by omega]
    · rwa [show x + 1 + c = x + (c + 1) by omega, show y + 1 + c = y + (c + 1) by omega]

theorem best_tails {M : Nat → Nat → Prop} (c : Nat) {l : List Int} {x y u v : Nat} (hm : ∀ i, i < c → M (u + i) (v + i)) (h : Best M l x y u v) : Best M (l ++ List.replicate c 32) x y (u + c) (v + c) := by
  induction c with
  | zero => simpa using h
  | succ c ih =>
    rw [List.replicate_succ', ← List.append_assoc]
    exact best_tail (hm c (by omega)) (ih (fun i hi => hm i (by omega)))

theorem best_adds {M : Nat → Nat → Prop} (x y c : Nat) : Best M (List.replicate c 43) x y x (y + c) := by
  refine ⟨add_y c x y, fun l' h' => ?_⟩
  rw [rep_cost _ _ (by decide)]
  have := Vs_diag h'
  omega

theorem best_rems {M : Nat → Nat → Prop} (x y c : Nat) : Best M (List.replicate c 45) x y (x + c) y := by
  refine ⟨add_x c x y, fun l' h' => ?_⟩
  rw [rep_cost _ _ (by decide)]
  have := Vs_diag h'
  omega

/-- The window's own matches. -/
def Win (M : Nat → Nat → Prop) (a b n m : Nat) : Nat → Nat → Prop := fun i j => i < n ∧ j < m ∧ M (a + i) (b + j)

theorem Win_in {M : Nat → Nat → Prop} {a b n m : Nat} : ∀ i j, Win M a b n m i j → i < n ∧ j < m := fun _ _ h => ⟨h.1, h.2.1⟩

theorem Vs_win {M : Nat → Nat → Prop} {a b n m : Nat} {l : List Int} {x y u v : Nat} (hu : u ≤ n) (hv : v ≤ m) :
    Vs (Win M a b n m) l x y u v ↔ Vs M l (a + x) (b + y) (a + u) (b + v) := by
  rw [← Vs_shift]
  constructor
  · exact Vs_mono fun i j h => h.2.2
  · exact Vs_within fun i j hi hj h => ⟨by omega, by omega, h⟩

theorem best_mid {M : Nat → Nat → Prop} {a b n m x y u v : Nat} {l1 l2 : List Int} (hmid : Mid (Win M a b n m) n m x y u v)
    (h1 : Best M l1 a b (a + x) (b + y)) (h2 : Best M l2 (a + u) (b + v) (a + n) (b + m)) :
    Best M (l1 ++ List.replicate (u - x) 32 ++ l2) a b (a + n) (b + m) := by
  obtain ⟨d, e, g1, g2, g3, ⟨lp, g4, g5⟩, g6, g7, g8, g9, g10, lq, g11, g12⟩ := hmid
  have hx := Vs_le g4
  have k1 := h1.2 lp (by have := (Vs_win (by omega) (by omega)).1 g4; simpa using this)
  have k2 := h2.2 lq ((Vs_win (Nat.le_refl _) (Nat.le_refl _)).1 g11)
  refine ⟨?_, fun l' h' => ?_⟩
  · rw [Vs_append]
    refine ⟨a + u, b + v, ?_, h2.1⟩
    rw [Vs_append]
    refine ⟨a + x, b + y, h1.1, ?_⟩
    have := Vs_run (M := M) (u - x) (a + x) (b + y) (fun i hi => by have := (g8 i hi).2.2; rwa [show a + x + i = a + (x + i) by omega, show b + y + i = b + (y + i) by omega])
    rwa [show a + x + (u - x) = a + u by omega, show b + y + (u - x) = b + v by omega] at this
  · have h3 : Vs (Win M a b n m) l' 0 0 n m := (Vs_win (Nat.le_refl _) (Nat.le_refl _)).2 (by simpa using h')
    have := g1 l' h3
    rw [cost_append, cost_append, replicate_cost]
    omega

theorem mid_inside {M : Nat → Nat → Prop} {n m x y u v : Nat} (h : Mid M n m x y u v) : x ≤ u ∧ u + y = v + x ∧ u ≤ n ∧ v ≤ m ∧ x + y < n + m ∧ 0 < u + v := by
  obtain ⟨d, e, g1, g2, g3, ⟨lp, g4, g5⟩, g6, g7, g8, g9, g10, lq, g11, g12⟩ := h
  refine ⟨g6, g7, g9, g10, ?_, ?_⟩
  · by_cases hh : x + y < n + m
    · exact hh
    · have : x = n := by omega
      have : y = m := by omega
      subst_vars
      have := g1 _ g4
      omega
  · by_cases hh : 0 < u + v
    · exact hh
    · have : u = 0 := by omega
      have : v = 0 := by omega
      subst_vars
      have := g1 _ g11
      omega

/-- What the two parts need: their own scripts are no dearer. -/
theorem mid_parts {M : Nat → Nat → Prop} {n m x y u v T : Nat} (h : Mid M n m x y u v) (hT : ∃ l, Vs M l 0 0 n m ∧ cost l ≤ T) :
    (∃ l, Vs M l 0 0 x y ∧ cost l ≤ T) ∧ ∃ l, Vs M l u v n m ∧ cost l ≤ T := by
  obtain ⟨d, e, g1, g2, g3, ⟨lp, g4, g5⟩, g6, g7, g8, g9, g10, lq, g11, g12⟩ := h
  obtain ⟨l, h1, h2⟩ := hT
  have := g1 l h1
  exact ⟨⟨lp, g4, by omega⟩, lq, g11, by omega⟩

end My
end Go.Proofs.Qxb6606138aDoor
