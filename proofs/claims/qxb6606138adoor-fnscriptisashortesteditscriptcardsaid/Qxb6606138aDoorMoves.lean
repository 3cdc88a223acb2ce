import Derived.Test.Qxb6606138aDoorSlide
namespace Go.Proofs.Qxb6606138aDoor
namespace My

/-- The kept lines right ahead of p have come from both texts. -/
theorem Sv.back {M : Nat → Nat → Prop} {n nF nT c : Nat} {l : List Int} {p fa ta : Nat} (h : Sv M n nF nT c l p fa ta) (up : Nat) (hup : up ≤ p) (hu : ∀ j, p - up ≤ j → j < p → l.getD j 0 = 32) : up ≤ fa ∧ up ≤ ta := by
  have ht : l.take p = l.take (p - up) ++ List.replicate up 32 := by
    have := h.len
    have := h.pn
    refine ext_getD (by simp; omega) fun i hi => ?_
    simp at hi
    have hts : (l.take (p - up)).length = p - up := by simp; omega
    rw [getD_take _ _ _ (by omega), getD_append, hts]
    split
    · rw [getD_take _ _ _ (by assumption)]
    · rw [getD_replicate _ _ _ (by omega)]; exact hu _ (by omega) (by omega)
  have hh := h.head
  rw [ht, Vs_append] at hh
  obtain ⟨x, y, _, h2⟩ := hh
  rw [Vs_kept] at h2
  omega

/-- Ops that are all one, from p on. -/
theorem Sv.ahead {M : Nat → Nat → Prop} {n nF nT c : Nat} {l : List Int} {p fa ta : Nat} (h : Sv M n nF nT c l p fa ta) (q : Nat) (o : Int) (hq : p ≤ q) (hqn : q ≤ n) (hrun : ∀ j, p ≤ j → j < q → l.getD j 0 = o) :
    (o = 45 → Sv M n nF nT c l q (fa + (q - p)) ta) ∧ (o = 43 → Sv M n nF nT c l q fa (ta + (q - p))) ∧ (o = 32 → Sv M n nF nT c l q (fa + (q - p)) (ta + (q - p))) := by
  obtain ⟨d, rfl⟩ : ∃ d, q = p + d := ⟨q - p, by omega⟩
  clear hq
  induction d with
  | zero => simp; exact ⟨fun _ => h, fun _ => h, fun _ => h⟩
  | succ d ih =>
    obtain ⟨h1, h2, h3⟩ := ih (by omega) (fun j a b => hrun j a (by omega))
    have hl := hrun (p + d) (by omega) (by omega)
    refine ⟨fun e => ?_, fun e => ?_, fun e => ?_⟩
    · have := (h1 e).rem (by omega) (by rw [hl, e])
      rwa [show fa + (p + d - p) + 1 = fa + (p + (d + 1) - p) by omega] at this
    · have := (h2 e).add (by omega) (by rw [hl, e])
      rwa [show ta + (p + d - p) + 1 = ta + (p + (d + 1) - p) by omega] at this
    · have := (h3 e).keep (by omega) (by rw [hl, e])
      rwa [show fa + (p + d - p) + 1 = fa + (p + (d + 1) - p) by omega, show ta + (p + d - p) + 1 = ta + (p + (d + 1) - p) by omega] at this

end My

/-- The op's own text: its lines, where the scan stands in them. -/
structure Side (o : Int) (X Y L : List ByteArray) (fa ta at' : Nat) : Prop where
  out : (o = 45 ∧ L = X ∧ at' = fa) ∨ (o = 43 ∧ L = Y ∧ at' = ta)

/-- Two lines of one text are the same. -/
def Same (L : List ByteArray) (i j : Nat) : Prop := ((L.getD i ByteArray.empty).toList == (L.getD j ByteArray.empty).toList) = true

theorem Side.room {o : Int} {X Y L : List ByteArray} {fa ta at' : Nat} (hs : Side o X Y L fa ta at') {n c : Nat} {l : List Int} {p q : Nat} (h : My.Sv (Eqs X Y) n X.length Y.length c l p fa ta) (hq : p ≤ q) (hrun : ∀ j, p ≤ j → j < q → l.getD j 0 = o)
    (d : Nat) (hd : q + d ≤ n) (hk : ∀ j, q ≤ j → j < q + d → l.getD j 0 = 32) : at' + (q - p) + d ≤ L.length := by
  rcases hs.out with ⟨e1, e2, e3⟩ | ⟨e1, e2, e3⟩
  · have h1 := (h.ahead q o hq (by omega) hrun).1 e1
    have h2 := ((h1.ahead (q + d) 32 (by omega) hd hk).2.2 rfl).inside
    rw [e2, e3]; omega
  · have h1 := (h.ahead q o hq (by omega) hrun).2.1 e1
    have h2 := ((h1.ahead (q + d) 32 (by omega) hd hk).2.2 rfl).inside
    rw [e2, e3]; omega

theorem Side.back {o : Int} {X Y L : List ByteArray} {fa ta at' : Nat} (hs : Side o X Y L fa ta at') {n c : Nat} {l : List Int} {p : Nat} (h : My.Sv (Eqs X Y) n X.length Y.length c l p fa ta) (up : Nat) (hup : up ≤ p) (hu : ∀ j, p - up ≤ j → j < p → l.getD j 0 = 32) : up ≤ at' := by
  have := h.back up hup hu
  rcases hs.out with ⟨e1, e2, e3⟩ | ⟨e1, e2, e3⟩ <;> omega

theorem same_left {X Y : List ByteArray} {i j : Nat} (h : Same X i j) (hi : i < X.length) (hj : j < X.length) (z : Nat) : Eqs X Y i z ↔ Eqs X Y j z := by
  unfold Same at h
  rw [beq_iff_eq] at h
  unfold Eqs
  constructor
  · rintro ⟨_, h2, h3⟩; exact ⟨hj, h2, by rw [← h]; exact h3⟩
  · rintro ⟨_, h2, h3⟩; exact ⟨hi, h2, by rw [h]; exact h3⟩

theorem same_right {X Y : List ByteArray} {i j : Nat} (h : Same Y i j) (hi : i < Y.length) (hj : j < Y.length) (z : Nat) : Eqs X Y z i ↔ Eqs X Y z j := by
  unfold Same at h
  rw [beq_iff_eq] at h
  unfold Eqs
  constructor
  · rintro ⟨h2, _, h3⟩; exact ⟨h2, hj, by rw [← h]; exact h3⟩
  · rintro ⟨h2, _, h3⟩; exact ⟨h2, hi, by rw [h]; exact h3⟩

/-- A run moved by 'sh', told by its own text's lines. -/
theorem moved {o : Int} {X Y L : List ByteArray} {fa ta at' : Nat} (hs : Side o X Y L fa ta at') {n c : Nat} {l l' : List Int} {p q up down : Nat} {sh : Int} (h : My.Sv (Eqs X Y) n X.length Y.length c l p fa ta) (hq : p < q) (hqn : q + down ≤ n) (hup : up ≤ p)
    (hrun : ∀ j, p ≤ j → j < q → l.getD j 0 = o) (hu : ∀ j, p - up ≤ j → j < p → l.getD j 0 = 32) (hd : ∀ j, q ≤ j → j < q + down → l.getD j 0 = 32)
    (he1 : p - up = 0 ∨ l.getD (p - up - 1) 0 = 32) (he2 : q + down = n ∨ l.getD (q + down) 0 = 32) (hs1 : -(up : Int) ≤ sh) (hs2 : sh ≤ down)
    (hsame : ∀ j, at' - up ≤ j → j < at' + down → Same L j (j + (q - p)))
    (hlen : l'.length = n) (hl' : ∀ j, j < n → l'.getD j 0 = if (p : Int) + sh ≤ j ∧ (j : Int) < q + sh then o else if p - up ≤ j ∧ j < q + down then 32 else l.getD j 0) :
    (o = 45 → My.Sv (Eqs X Y) n X.length Y.length c l' ((q : Int) + sh).toNat ((fa : Int) + sh + (q - p : Nat)).toNat ((ta : Int) + sh).toNat ∧ 0 ≤ (fa : Int) + sh ∧ 0 ≤ (ta : Int) + sh) ∧
    (o = 43 → My.Sv (Eqs X Y) n X.length Y.length c l' ((q : Int) + sh).toNat ((fa : Int) + sh).toNat ((ta : Int) + sh + (q - p : Nat)).toNat ∧ 0 ≤ (fa : Int) + sh ∧ 0 ≤ (ta : Int) + sh) ∧
    My.Edge l' ((q : Int) + sh).toNat ∧ My.cost (l'.drop ((q : Int) + sh).toNat) < My.cost (l.drop p) := by
  have hr := hs.room h (Nat.le_of_lt hq) hrun down hqn hd
  have hb := hs.back h up hup hu
  have ho : o = 45 ∨ o = 43 := by rcases hs.out with h | h <;> simp [h.1]
  refine h.slid ho hq hqn hup hrun hu hd he1 he2 hs1 hs2 (fun e i hi z _ => ?_) (fun e i hi z _ => ?_) hlen hl'
  · rcases hs.out with ⟨e1, e2, e3⟩ | ⟨e1, e2, e3⟩
    · rw [← e3]
      rw [e2] at hsame hr
      exact same_left (hsame (at' - up + i) (by omega) (by omega)) (by omega) (by omega) z
    · omega
  · rcases hs.out with ⟨e1, e2, e3⟩ | ⟨e1, e2, e3⟩
    · omega
    · rw [← e3]
      rw [e2] at hsame hr
      exact same_right (hsame (at' - up + i) (by omega) (by omega)) (by omega) (by omega) z

end Go.Proofs.Qxb6606138aDoor
