import Derived.Test.Qxb6606138aDoorTable
namespace Go.Proofs.Qxb6606138aDoor
namespace My

theorem getD_set' (l : List Int) (i j : Nat) (v : Int) (hi : i < l.length) : (l.set i v).getD j 0 = if i = j then v else l.getD j 0 := by
  simp only [List.getD_eq_getElem?_getD, List.getElem?_set]
  split <;> simp [*]

/-- The furthest points at d of the diagonals from -d to below k stand in the row, diagonal 0 at place c. -/
def Done (M : Nat → Nat → Prop) (d c : Nat) (k : Int) (fw : List Int) : Prop :=
  ∀ j : Int, -(d : Int) ≤ j → j < k → (j - d) % 2 = 0 → Far M d j (fw.getD ((c : Int) + j).toNat 0)

/-- What the row holds when the round d begins. -/
def Prev (M : Nat → Nat → Prop) (d c : Nat) (fw : List Int) : Prop :=
  (d = 0 → fw.getD (c + 1) 0 = 0) ∧ ∀ e, d = e + 1 → Done M e c (e + 1) fw

theorem Prev_next {M : Nat → Nat → Prop} {d c : Nat} {k : Int} {fw : List Int} (h : Done M d c k fw) (hk : (d : Int) < k) : Prev M (d + 1) c fw :=
  ⟨fun e => by omega, fun e he => by obtain rfl : d = e := by omega
                                     exact fun j h1 h2 h3 => h j h1 (by omega) h3⟩

theorem Prev_set {M : Nat → Nat → Prop} {d c : Nat} {k : Int} {fw : List Int} (h : Prev M d c fw) (hpar : (k - d) % 2 = 0) (_hk : -(d : Int) ≤ k) (hc : d < c) (hlen : ((c : Int) + k).toNat < fw.length) (v : Int) :
    Prev M d c (fw.set ((c : Int) + k).toNat v) := by
  refine ⟨fun e => ?_, fun e he j h1 h2 h3 => ?_⟩
  · rw [getD_set' _ _ _ _ hlen, if_neg (by omega)]; exact h.1 e
  · rw [getD_set' _ _ _ _ hlen, if_neg (by omega)]; exact h.2 e he j h1 h2 h3

theorem Done_set {M : Nat → Nat → Prop} {d c : Nat} {k : Int} {fw : List Int} (h : Done M d c k fw) (hpar : (k - d) % 2 = 0) (hk : -(d : Int) ≤ k) (hc : d < c) (hlen : ((c : Int) + k).toNat < fw.length) {v : Int} (hv : Far M d k v) :
    Done M d c (k + 2) (fw.set ((c : Int) + k).toNat v) := by
  intro j h1 h2 h3
  rw [getD_set' _ _ _ _ hlen]
  by_cases e : j = k
  · subst e; rw [if_pos rfl]; exact hv
  · rw [if_neg (by omega)]; exact h j h1 (by omega) h3

/-- Where a step starts. -/
structure Beg (M : Nat → Nat → Prop) (d : Nat) (k : Int) (s ys : Nat) : Prop where
  diag : (s : Int) - ys = k
  reach : ∃ l, Vs M l 0 0 s ys ∧ cost l ≤ d
  left : ∀ (x y : Nat) (l : List Int), (x : Int) - y = k - 1 → Vs M l 0 0 x y → cost l + 1 ≤ d → x + 1 ≤ s
  down : ∀ (x y : Nat) (l : List Int), (x : Int) - y = k + 1 → Vs M l 0 0 x y → cost l + 1 ≤ d → x ≤ s

theorem beg {M : Nat → Nat → Prop} {d c : Nat} {k : Int} {fw : List Int} (h : Prev M d c fw) (hpar : (k - d) % 2 = 0) (hk : -(d : Int) ≤ k) (hk2 : k ≤ d) (hc : d < c) :
    ∃ s ys : Nat, from' d k (fw.getD ((c : Int) + k - 1).toNat 0) (fw.getD ((c : Int) + k + 1).toNat 0) = s ∧ Beg M d k s ys := by
  cases d with
  | zero =>
    have h0 := h.1 rfl
    have e : k = 0 := by omega
    subst e
    refine ⟨0, 0, ?_, ⟨by omega, ⟨[], ⟨rfl, rfl⟩, Nat.le_refl _⟩, fun _ _ _ _ _ h => by omega, fun _ _ _ _ _ h => by omega⟩⟩
    simp only [from']
    rw [if_pos (Or.inl (by omega)), show ((c : Int) + 0 + 1).toNat = c + 1 by omega, h0]
    rfl
  | succ d =>
    have h1 := h.2 d rfl
    obtain ⟨s, ys, e1, e2, e3, e4, e5⟩ := far_start (M := M) (d := d) (k := k) (fl := fw.getD ((c : Int) + k - 1).toNat 0) (fr := fw.getD ((c : Int) + k + 1).toNat 0) (by omega) (by omega) (by omega)
      (fun hne => by have := h1 (k - 1) (by omega) (by omega) (by omega); rwa [show (c : Int) + (k - 1) = (c : Int) + k - 1 by omega] at this)
      (fun hne => by have := h1 (k + 1) (by omega) (by omega) (by omega); rwa [show (c : Int) + (k + 1) = (c : Int) + k + 1 by omega] at this)
    exact ⟨s, ys, by rw [← e1]; rfl, ⟨e2, e3, e4, e5⟩⟩

theorem Beg.bound {M : Nat → Nat → Prop} {n m d : Nat} (hM : ∀ i j, M i j → i < n ∧ j < m) {k : Int} {s ys : Nat} (h : Beg M d k s ys) : s ≤ n + d ∧ ys ≤ m + d := by
  obtain ⟨l, h3, h4⟩ := h.reach
  constructor
  · by_cases hx : s ≤ n
    · omega
    · rw [show s = n + (s - n) by omega] at h3
      obtain ⟨l', h5, h6⟩ := past_x hM (s - n) h3
      omega
  · by_cases hy : ys ≤ m
    · omega
    · rw [show ys = m + (ys - m) by omega] at h3
      obtain ⟨l', h5, h6⟩ := past_y hM (ys - m) h3
      omega

theorem Beg.far {M : Nat → Nat → Prop} {d c : Nat} {k : Int} {s ys : Nat} (h : Beg M d k s ys) (hrun : ∀ i, i < c → M (s + i) (ys + i)) (hstop : ¬ M (s + c) (ys + c)) : Far M d k ((s + c : Nat) : Int) := by
  have := h.diag
  exact far_step s (s + c) ys (ys + c) h.diag (by omega) (by omega) (fun i hi => hrun i (by omega)) hstop h.reach h.left h.down

/-- On the diagonals below k the search from the start has not met that from the end. -/
def Nom (c n : Nat) (d : Nat) (dl e k : Int) (fw bw : List Int) : Prop :=
  ∀ j : Int, -(d : Int) ≤ j → j < k → (j - d) % 2 = 0 → -e ≤ dl - j → dl - j ≤ e → fw.getD ((c : Int) + j).toNat 0 < (n : Int) - bw.getD ((c : Int) + (dl - j)).toNat 0

theorem Nom_set {c n d : Nat} {dl e k : Int} {fw bw : List Int} (h : Nom c n d dl e k fw bw) (hpar : (k - d) % 2 = 0) (hk : -(d : Int) ≤ k) (hc : d < c) (hlen : ((c : Int) + k).toNat < fw.length) {v : Int}
    (hv : -e ≤ dl - k → dl - k ≤ e → v < (n : Int) - bw.getD ((c : Int) + (dl - k)).toNat 0) : Nom c n d dl e (k + 2) (fw.set ((c : Int) + k).toNat v) bw := by
  intro j h1 h2 h3 h4 h5
  rw [getD_set' _ _ _ _ hlen]
  by_cases e : j = k
  · subst e; rw [if_pos rfl]; exact hv h4 h5
  · rw [if_neg (by omega)]; exact h j h1 (by omega) h3 h4 h5

/-- The same of the search from the end. -/
def Mon (c n : Nat) (d : Nat) (dl k : Int) (fw bw : List Int) : Prop :=
  ∀ j : Int, -(d : Int) ≤ j → j < k → (j - d) % 2 = 0 → -(d : Int) ≤ dl - j → dl - j ≤ d → fw.getD ((c : Int) + (dl - j)).toNat 0 < (n : Int) - bw.getD ((c : Int) + j).toNat 0

theorem Mon_set {c n d : Nat} {dl k : Int} {fw bw : List Int} (h : Mon c n d dl k fw bw) (hpar : (k - d) % 2 = 0) (hk : -(d : Int) ≤ k) (hc : d < c) (hlen : ((c : Int) + k).toNat < bw.length) {v : Int}
    (hv : -(d : Int) ≤ dl - k → dl - k ≤ d → fw.getD ((c : Int) + (dl - k)).toNat 0 < (n : Int) - v) : Mon c n d dl (k + 2) fw (bw.set ((c : Int) + k).toNat v) := by
  intro j h1 h2 h3 h4 h5
  rw [getD_set' _ _ _ _ hlen]
  by_cases e : j = k
  · subst e; rw [if_pos rfl]; exact hv h4 h5
  · rw [if_neg (by omega)]; exact h j h1 (by omega) h3 h4 h5

/-- Behind a round in which an odd search did not meet. -/
theorem least_odd {M : Nat → Nat → Prop} {n m d c : Nat} {k : Int} {fw bw : List Int} (hT : Least M n m (2 * d - 1)) (hodd : (n + m) % 2 = 1) (hk : (d : Int) < k)
    (hfw : Done M d c k fw) (hbw : Prev (Rev M n m) d c bw) (hno : Nom c n d ((n : Int) - m) ((d : Int) - 1) k fw bw) : Least M n m (2 * (d + 1) - 1) := by
  cases d with
  | zero =>
    intro l hl
    have := Vs_count hl
    omega
  | succ d =>
    have := least_next (M := M) (n := n) (m := m) (d := d + 1) (e := d) (by rw [show d + 1 + d = 2 * (d + 1) - 1 by omega]; exact hT) (by omega) (fun k' a1 a2 a3 a4 a5 => by
      refine ⟨_, _, hfw k' (by omega) (by omega) (by omega), hbw.2 d rfl _ (by omega) (by omega) (by omega), ?_⟩
      exact hno k' (by omega) (by omega) (by omega) (by omega) (by omega))
    rwa [show d + 1 + d + 2 = 2 * (d + 1 + 1) - 1 by omega] at this

/-- Behind a round in which an even search did not meet. -/
theorem least_even {M : Nat → Nat → Prop} {n m d c : Nat} {k k2 : Int} {fw bw : List Int} (hT : Least M n m (2 * d)) (heven : (n + m) % 2 = 0) (hk : (d : Int) < k) (hk2 : (d : Int) < k2)
    (hfw : Done M d c k2 fw) (hbw : Done (Rev M n m) d c k bw) (hno : Mon c n d ((n : Int) - m) k fw bw) : Least M n m (2 * (d + 1)) := by
  have := least_next (M := M) (n := n) (m := m) (d := d) (e := d) (by rw [show d + d = 2 * d by omega]; exact hT) (by omega) (fun k' a1 a2 a3 a4 a5 => by
    refine ⟨_, _, hfw k' (by omega) (by omega) (by omega), hbw ((n : Int) - m - k') (by omega) (by omega) (by omega), ?_⟩
    have := hno ((n : Int) - m - k') (by omega) (by omega) (by omega) (by omega) (by omega)
    rwa [show (n : Int) - m - ((n : Int) - m - k') = k' by omega] at this)
  rwa [show d + d + 2 = 2 * (d + 1) by omega] at this

/-- An odd search has met: the snake is a good place to part the texts. -/
theorem met_odd {M : Nat → Nat → Prop} {n m d c : Nat} {k : Int} {bw : List Int} (hM : ∀ i j, M i j → i < n ∧ j < m) (hT : Least M n m (2 * d - 1)) (hT2 : Least M n m 2) (hodd : (n + m) % 2 = 1)
    (hdist : ∃ l, Vs M l 0 0 n m) (hpar : (k - d) % 2 = 0) {s ys r : Nat} (hb : Beg M d k s ys) (hrun : ∀ i, i < r → M (s + i) (ys + i)) (hbw : Prev (Rev M n m) d c bw)
    (h1 : -((d : Int) - 1) ≤ (n : Int) - m - k) (h2 : (n : Int) - m - k ≤ (d : Int) - 1) (h3 : (n : Int) - bw.getD ((c : Int) + ((n : Int) - m - k)).toNat 0 ≤ ((s + r : Nat) : Int)) :
    Mid M n m s ys (s + r) (ys + r) := by
  obtain ⟨lx, hlx⟩ := hdist
  have hcx := Vs_count hlx
  cases d with
  | zero => omega
  | succ d =>
    have hd := hb.diag
    have hT' : Least M n m (d + 1 + d) := by rw [show d + 1 + d = 2 * (d + 1) - 1 by omega]; exact hT
    have hfar := hbw.2 d rfl ((n : Int) - m - k) (by omega) (by omega) (by omega)
    by_cases hd1 : 1 ≤ d
    · refine mid_fwd hM hT' (by omega) (by omega) hd1 hrun hb.reach (b := bw.getD ((c : Int) + ((n : Int) - m - k)).toNat 0) ?_ (by omega) (by omega)
      rw [hd]; exact hfar
    · -- then one change would do, and two are needed
      exfalso
      obtain rfl : d = 0 := by omega
      obtain ⟨l, hl1, hl2⟩ := hb.reach
      have h4 : Vs M (l ++ List.replicate r 32) 0 0 (s + r) (ys + r) := by
        rw [Vs_append]; exact ⟨s, ys, hl1, Vs_run r s ys hrun⟩
      have g := good (M := M) (n := n) (m := m) (d := 1) (e := 0) hM (by simpa using hT') (by omega) (by omega) (by omega) h4 (by rw [cost_append, replicate_cost]; omega) (b := bw.getD ((c : Int) + ((n : Int) - m - k)).toNat 0)
        (by rw [show (n : Int) - m - (((s + r : Nat) : Int) - ((ys + r : Nat) : Int)) = (n : Int) - m - k by omega]; exact hfar) (by omega) (by omega)
      obtain ⟨_, _, l', h5, h6⟩ := g
      have h7 : Vs M (l ++ List.replicate r 32 ++ l') 0 0 n m := by rw [Vs_append]; exact ⟨_, _, h4, h5⟩
      have h8 := hT2 _ h7
      rw [cost_append, cost_append, replicate_cost] at h8
      omega

/-- An even search has met. -/
theorem met_even {M : Nat → Nat → Prop} {n m d c : Nat} {k k2 : Int} {fw : List Int} (hM : ∀ i j, M i j → i < n ∧ j < m) (hT : Least M n m (2 * d)) (hT2 : Least M n m 2)
    (hk2 : (d : Int) < k2) (heven : (n + m) % 2 = 0) (hpar : (k - d) % 2 = 0) {s ys r : Nat} (hb : Beg (Rev M n m) d k s ys) (hrun : ∀ i, i < r → Rev M n m (s + i) (ys + i)) (hfw : Done M d c k2 fw)
    (h1 : -(d : Int) ≤ (n : Int) - m - k) (h2 : (n : Int) - m - k ≤ d) (h3 : (n : Int) - ((s + r : Nat) : Int) ≤ fw.getD ((c : Int) + ((n : Int) - m - k)).toNat 0) :
    s + r ≤ n ∧ ys + r ≤ m ∧ Mid M n m (n - (s + r)) (m - (ys + r)) (n - s) (m - ys) := by
  have hd := hb.diag
  have hfar := hfw ((n : Int) - m - k) (by omega) (by omega) (by omega)
  have hT' : Least M n m (d + d) := by rw [show d + d = 2 * d by omega]; exact hT
  by_cases hd1 : 1 ≤ d
  · exact mid_bwd hM hT' hd1 hrun hb.reach (f := fw.getD ((c : Int) + ((n : Int) - m - k)).toNat 0) (by rw [hd]; exact hfar) (by omega) (by omega)
  · exfalso
    obtain rfl : d = 0 := by omega
    -- both searches stand at the corner's own matches: no change at all
    obtain ⟨⟨x, y, l, e1, e2, e3, e4⟩, _⟩ := hfar
    obtain ⟨lb, hb1, hb2⟩ := hb.reach
    have hMr : ∀ i j, Rev M n m i j → i < n ∧ j < m := fun i j h => ⟨h.1, h.2.1⟩
    have h4 : Vs (Rev M n m) (lb ++ List.replicate r 32) 0 0 (s + r) (ys + r) := by
      rw [Vs_append]; exact ⟨s, ys, hb1, Vs_run r s ys hrun⟩
    have hin : s + r ≤ n ∧ ys + r ≤ m := by
      have c1 := Vs_diag h4
      have c2 := Vs_count h4
      rw [cost_append, replicate_cost] at c1 c2
      constructor
      · by_cases hx : s + r ≤ n
        · exact hx
        · rw [show s + r = n + (s + r - n) by omega] at h4
          obtain ⟨l', h5, h6⟩ := past_x hMr (s + r - n) h4
          rw [cost_append, replicate_cost] at h6
          omega
      · by_cases hx : ys + r ≤ m
        · exact hx
        · rw [show ys + r = m + (ys + r - m) by omega] at h4
          obtain ⟨l', h5, h6⟩ := past_y hMr (ys + r - m) h4
          rw [cost_append, replicate_cost] at h6
          omega
    have h5 := Vs_unrev h4 hin.1 hin.2
    rw [Nat.sub_zero, Nat.sub_zero] at h5
    have hx : x ≤ n := by
      by_cases hx : x ≤ n
      · exact hx
      · rw [show x = n + (x - n) by omega] at e3
        obtain ⟨l', h6, h7⟩ := past_x hM (x - n) e3
        omega
    have hy : y ≤ m := by
      by_cases hy : y ≤ m
      · exact hy
      · rw [show y = m + (y - m) by omega] at e3
        obtain ⟨l', h6, h7⟩ := past_y hM (y - m) e3
        omega
    obtain ⟨l2, h6, h7⟩ := down (x - (n - (s + r))) h5 (by omega) (by omega)
    rw [show n - (s + r) + (x - (n - (s + r))) = x by omega, show m - (ys + r) + (x - (n - (s + r))) = y by omega] at h6
    have h8 : Vs M (l ++ l2) 0 0 n m := by rw [Vs_append]; exact ⟨_, _, e3, h6⟩
    have h9 := hT2 _ h8
    rw [cost_append] at h9
    rw [cost_reverse, cost_append, replicate_cost] at h7
    omega

/-- The searches meet in time. -/
theorem in_time {M : Nat → Nat → Prop} {n m d : Nat} (hT : Least M n m (2 * d - (n + m) % 2)) (hdist : ∃ l, Vs M l 0 0 n m ∧ cost l ≤ 2048) : 2 * d ≤ 2048 + (n + m) % 2 ∧ 2 * d ≤ n + m + (n + m) % 2 := by
  obtain ⟨l, h1, h2⟩ := hdist
  have := hT l h1
  have := Vs_count h1
  omega

end My
end Go.Proofs.Qxb6606138aDoor
