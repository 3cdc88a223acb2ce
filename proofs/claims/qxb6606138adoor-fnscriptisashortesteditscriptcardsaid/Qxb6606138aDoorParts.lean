import Derived.Test.Qxb6606138aDoorSearch
namespace Go.Proofs.Qxb6606138aDoor
namespace My

theorem ups {M : Nat → Nat → Prop} (j : Nat) {l : List Int} {x y u v : Nat} (h : Vs M l x y (u + j) (v + j)) (hx : x ≤ u) (hy : y ≤ v) : ∃ l', Vs M l' x y u v ∧ cost l' ≤ cost l := by
  induction j generalizing l with
  | zero => exact ⟨l, h, Nat.le_refl _⟩
  | succ j ih =>
    obtain ⟨l2, h2, h3⟩ := up_one (u := u + j) (v := v + j) h (by omega) (by omega)
    obtain ⟨l3, h4, h5⟩ := ih h2
    exact ⟨l3, h4, by omega⟩

theorem Vs_length {M : Nat → Nat → Prop} {l : List Int} {x y u v : Nat} (h : Vs M l x y u v) : l.length + x + y ≤ u + v := by
  have := Vs_count h; have := kept_cost l; omega

/-- The inner window's scripts are no dearer. -/
theorem inner {M : Nat → Nat → Prop} {fl tl fh th c s T : Nat} (hd : ∃ l, Vs M l fl tl fh th ∧ cost l ≤ T) (h1 : fl + c + s ≤ fh) (h2 : tl + c + s ≤ th) : ∃ l, Vs M l (fl + c) (tl + c) (fh - s) (th - s) ∧ cost l ≤ T := by
  obtain ⟨l, h3, h4⟩ := hd
  obtain ⟨l2, h5, h6⟩ := down c h3 (by omega) (by omega)
  rw [show fh = fh - s + s by omega, show th = th - s + s by omega] at h5
  obtain ⟨l3, h7, h8⟩ := ups s h5 (by omega) (by omega)
  exact ⟨l3, h7, by omega⟩

/-- The whole window's best script out of the inner one's. -/
theorem outer {M : Nat → Nat → Prop} {fl tl fh th c s : Nat} {l : List Int} (hb : Best M l (fl + c) (tl + c) (fh - s) (th - s)) (hs1 : s ≤ fh) (hs2 : s ≤ th) (hh : ∀ i, i < c → M (fl + i) (tl + i)) (ht : ∀ i, i < s → M (fh - 1 - i) (th - 1 - i)) :
    Best M (List.replicate c 32 ++ l ++ List.replicate s 32) fl tl fh th := by
  have h1 := best_heads c hh hb
  have h2 := best_tails s (u := fh - s) (v := th - s) (fun i hi => by
    have := ht (s - 1 - i) (by omega)
    rwa [show fh - 1 - (s - 1 - i) = fh - s + i by omega, show th - 1 - (s - 1 - i) = th - s + i by omega] at this) h1
  rwa [show fh - s + s = fh by omega, show th - s + s = th by omega] at h2

theorem win_dist {M : Nat → Nat → Prop} {a b n m T : Nat} (hd : ∃ l, Vs M l a b (a + n) (b + m) ∧ cost l ≤ T) : ∃ l, Vs (Win M a b n m) l 0 0 n m ∧ cost l ≤ T := by
  obtain ⟨l, h1, h2⟩ := hd
  exact ⟨l, (Vs_win (Nat.le_refl _) (Nat.le_refl _)).2 (by simpa using h1), h2⟩

theorem unwin_left {M : Nat → Nat → Prop} {a b n m x y T : Nat} (hx : x ≤ n) (hy : y ≤ m) (hd : ∃ l, Vs (Win M a b n m) l 0 0 x y ∧ cost l ≤ T) : ∃ l, Vs M l a b (a + x) (b + y) ∧ cost l ≤ T := by
  obtain ⟨l, h1, h2⟩ := hd
  exact ⟨l, by simpa using (Vs_win hx hy).1 h1, h2⟩

theorem unwin_right {M : Nat → Nat → Prop} {a b n m x y T : Nat} (hd : ∃ l, Vs (Win M a b n m) l x y n m ∧ cost l ≤ T) : ∃ l, Vs M l (a + x) (b + y) (a + n) (b + m) ∧ cost l ≤ T := by
  obtain ⟨l, h1, h2⟩ := hd
  exact ⟨l, (Vs_win (Nat.le_refl _) (Nat.le_refl _)).1 h1, h2⟩

end My
end Go.Proofs.Qxb6606138aDoor
