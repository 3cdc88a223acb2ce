/-
  Seat b6609191aD: zzTrailing, zzBytesEqual.
-/
import Derived.Test.Qxb6609191aDoorCt
namespace Go.Proofs.Qxb6609191aDoor
open Go.RowKit Go.Lib

theorem tr_none : ∀ (p acc : List UInt8), (∀ b ∈ p, isE b = false) → tr acc p = acc ++ p
  | [], acc, _ => by simp [tr]
  | b :: p, acc, h => by
    rw [tr, h b (by simp), if_neg (by simp), tr_none p _ (fun c hc => h c (by simp [hc]))]
    simp

theorem tr_last : ∀ (q acc : List UInt8) (c : UInt8) (r : List UInt8), isE c = true → (∀ b ∈ r, isE b = false) → tr acc (q ++ c :: r) = r
  | [], acc, c, r, hc, hr => by
    rw [List.nil_append, tr, hc, if_pos rfl, tr_none r [] hr]
    simp
  | b :: q, acc, c, r, hc, hr => by
    rw [List.cons_append, tr]
    split
    · exact tr_last q _ c r hc hr
    · exact tr_last q _ c r hc hr

/-- The last ending ahead of i: none, or at j. -/
def Last (p : List UInt8) (i : Nat) (z : Int) : Prop :=
  (z = -1 ∧ Before p i) ∨ ∃ j : Nat, z = j ∧ j < i ∧ isE (p.getD j 0) = true ∧ ∀ k, j < k → k < i → isE (p.getD k 0) = false

theorem Last.zero (p : List UInt8) : Last p 0 (-1) := .inl ⟨rfl, Before.zero p⟩
theorem Last.hit {p : List UInt8} {i : Nat} (he : isE (p.getD i 0) = true) : Last p (i + 1) i := .inr ⟨i, rfl, by omega, he, fun k h1 h2 => by omega⟩
theorem Last.miss {p : List UInt8} {i : Nat} {z : Int} (h : Last p i z) (he : isE (p.getD i 0) = false) : Last p (i + 1) z := by
  rcases h with ⟨h1, h2⟩ | ⟨j, h1, h2, h3, h4⟩
  · exact .inl ⟨h1, h2.succ he⟩
  · refine .inr ⟨j, h1, by omega, h3, fun k hk1 hk2 => ?_⟩
    by_cases e : k = i
    · subst e; exact he
    · exact h4 k hk1 (by omega)

theorem mem_getD {l : List UInt8} {b : UInt8} (h : b ∈ l) : ∃ j, j < l.length ∧ l.getD j 0 = b := by
  obtain ⟨j, hj, rfl⟩ := List.mem_iff_getElem.1 h
  exact ⟨j, hj, by rw [List.getD_eq_getElem?_getD, List.getElem?_eq_getElem hj]; rfl⟩

theorem Last.out {p : List UInt8} {z : Int} (h : Last p p.length z) (acc : List UInt8) : (z = -1 ∧ tr acc p = acc ++ p) ∨ ∃ j : Nat, z = j ∧ j < p.length ∧ tr acc p = p.drop (j + 1) := by
  rcases h with ⟨h1, h2⟩ | ⟨j, h1, h2, h3, h4⟩
  · refine .inl ⟨h1, tr_none p acc fun b hb => ?_⟩
    obtain ⟨j, hj, rfl⟩ := mem_getD hb
    exact h2 j hj
  · refine .inr ⟨j, h1, h2, ?_⟩
    have hp : p = p.take j ++ p.getD j 0 :: p.drop (j + 1) := by
      conv => lhs; rw [← List.take_append_drop j p, List.drop_eq_getElem_cons h2]
      rw [List.getD_eq_getElem?_getD, List.getElem?_eq_getElem h2]
      rfl
    conv => lhs; rw [hp]
    refine tr_last _ acc _ _ h3 fun b hb => ?_
    obtain ⟨k, hk, rfl⟩ := mem_getD hb
    rw [List.length_drop] at hk
    have := h4 (j + 1 + k) (by omega) (by omega)
    simp only [List.getD_eq_getElem?_getD, List.getElem?_drop] at this ⊢
    exact this

theorem tr_len : ∀ (p acc : List UInt8), (tr acc p).length ≤ acc.length + p.length
  | [], acc => by simp [tr]
  | b :: p, acc => by
    rw [tr]
    split
    · have := tr_len p []; simp only [List.length_cons, List.length_nil] at *; omega
    · have := tr_len p (acc ++ [b]); simp only [List.length_cons, List.length_append, List.length_nil] at *; omega

set_option maxHeartbeats 8000000 in
set_option maxRecDepth 100000 in
theorem zzTrailing27 (x y : Option Nat) (va vb : Value) (l m : List UInt8) (w : World) (hl : Rb w x va l) (hm : Rb w y vb m) (hlen : l.length + m.length ≤ 4194304) :
    Calls Tryd.prog 27 #[va, vb] w fun e w' => ∃ v', e = .returned v' ∧ w'.ownsRow w.heap.size 5 1 v' (tr l m).length ((tr l m).map bv) ∧ Below w.heap.size w w' := by
  have HL := Shut.mk hl
  have HM := Shut.mk hm
  have k19 := zzConcat19 x y va vb l m w hl hm hlen
  obtain ⟨ad, cap, rfl, hcap⟩ := hl.val
  obtain ⟨ad2, cap2, rfl, hcap2⟩ := hm.val
  clear hl hm
  have K19 := Shut.mk k19
  clear k19
  go_enter Tryd.func27, Tryd.ntmps27
  go_wp2
  go_loopg [5, 6] m.length (fun g s5 s6 wx => ∃ (i : Nat) (z : Int), i + g = m.length ∧ s6 = .int .i64 i ∧ s5 = .int .i64 z ∧ wx = w ∧ Last m i z)
  case atStart => exact ⟨0, -1, by omega, rfl, rfl, rfl, Last.zero m⟩
  case round =>
    obtain ⟨i, z, hig, rfl, rfl, rfl, hlast⟩ := hrel
    have LA := Shut.mk hlast
    clear hlast
    by_cases hi : i < m.length
    · obtain ⟨bb, off, cp, hv, hcp, c0⟩ := get_of_block HM.out hi
      injection hv with hv _ hv3
      subst hv hv3
      obtain ⟨c, hcd⟩ : ∃ c, m.getD i 0 = c := ⟨_, rfl⟩
      rw [hcd] at c0
      have CD := Shut.mk hcd
      clear hcd
      have hb := zzIsEnd c wr
      cases hE : isE c with
      | true =>
        rw [hE] at hb
        go_wp2_with (go_at_call 24; refine hb.mono ?_; rintro e w1 ⟨rfl, hw1⟩; rw [hw1]; clear hw1 w1)
        go_roundg (gk - 1)
        case measure => omega
        case rel => exact ⟨i + 1, i, by omega, by go_num, rfl, rfl, Last.hit (by rw [CD.out]; exact hE)⟩
      | false =>
        rw [hE] at hb
        go_wp2_with (go_at_call 24; refine hb.mono ?_; rintro e w1 ⟨rfl, hw1⟩; rw [hw1]; clear hw1 w1)
        go_roundg (gk - 1)
        case measure => omega
        case rel => exact ⟨i + 1, z, by omega, by go_num, rfl, rfl, LA.out.miss (by rw [CD.out]; exact hE)⟩
    · obtain rfl : i = m.length := by omega
      rcases LA.out.out l with ⟨rfl, htr⟩ | ⟨j, rfl, hj, htr⟩
      · have HT := Shut.mk htr
        clear htr
        go_wp2_with (go_at_call 19; refine K19.out.mono ?_; rintro e w1 ⟨v1, rfl, ho1, hb1⟩; have HO := Shut.mk (And.intro ho1 hb1); clear ho1 hb1)
        go_ret
        exact ⟨_, rfl, by rw [HT.out]; exact HO.out.1, HO.out.2⟩
      · have HT := Shut.mk htr
        clear htr
        obtain ⟨bb, off, cp, hv, hcp, _⟩ := get_of_block HM.out hj
        injection hv with hv _ hv3
        subst hv hv3
        have hcat : Shut (∀ v, Rb wr y v (m.drop (j + 1)) → Calls Tryd.prog 19 #[v, .slice none 0 0] wr fun e w' => ∃ v', e = .returned v' ∧ w'.ownsRow wr.heap.size 5 1 v' (tr l m).length ((tr l m).map bv) ∧ Below wr.heap.size wr w') := ⟨fun v hv => by
          have := zzConcat19 y none v (.slice none 0 0) (m.drop (j + 1)) [] wr hv (Rb.nil wr none) (by rw [List.length_drop]; simp only [List.length_nil]; omega)
          rw [List.append_nil, ← HT.out] at this
          exact this⟩
        have R8 := Shut.mk (HM.out.drop (j + 1) hj)
        have hj64 : j + 1 ≤ 4194304 := by omega
        by_cases hcc : cap2 = j + 1
        · have k1 := hcat.out (.slice (some ⟨bb, off, none⟩) (m.length - (j + 1)) 0) (Rb.none (by omega) (List.length_eq_zero_iff.1 (by rw [List.length_drop]; omega)))
          clear hcat R8
          go_wp2_with (go_at_call 19; refine k1.mono ?_; rintro e w1 ⟨v1, rfl, ho1, hb1⟩; have HO := Shut.mk (And.intro ho1 hb1); clear ho1 hb1)
          go_ret
          exact ⟨_, rfl, HO.out.1, HO.out.2⟩
        · have k1 := hcat.out _ R8.out
          clear hcat R8
          go_wp2_with (go_at_call 19; refine k1.mono ?_; rintro e w1 ⟨v1, rfl, ho1, hb1⟩; have HO := Shut.mk (And.intro ho1 hb1); clear ho1 hb1)
          go_ret
          exact ⟨_, rfl, HO.out.1, HO.out.2⟩

set_option maxHeartbeats 8000000 in
set_option maxRecDepth 100000 in
theorem zzBytesEqual17 (x y : Option Nat) (va vb : Value) (l m : List UInt8) (w : World) (hl : Rb w x va l) (hm : Rb w y vb m) (hlen2 : m.length ≤ 4194304) :
    Calls Tryd.prog 17 #[va, vb] w fun e w' => e = .returned (.bool (decide (l = m))) ∧ Below w.heap.size w w' := by
  have HL := Shut.mk hl
  have HM := Shut.mk hm
  obtain ⟨ad, cap, rfl, hcap⟩ := hl.val
  obtain ⟨ad2, cap2, rfl, hcap2⟩ := hm.val
  clear hl hm
  by_cases he : l.length = m.length
  case neg =>
    have hd : Shut (decide (l = m) = false) := ⟨decide_eq_false fun e => he (by rw [e])⟩
    have hne : ((l.length : Int) != (m.length : Int)) = true := by rw [bne_iff_ne]; omega
    go_enter Tryd.func17, Tryd.ntmps17
    go_wp2
    go_ret
    exact ⟨by rw [hd.out]; rfl, Below.refl _ _⟩
  have hne : ((l.length : Int) != (m.length : Int)) = false := by rw [bne_eq_false_iff_eq]; omega
  have HE := Shut.mk he
  clear he
  go_enter Tryd.func17, Tryd.ntmps17
  go_wp2
  clear hne
  go_loopg [5] l.length (fun g s5 wx => ∃ i : Nat, i + g = l.length ∧ s5 = .int .i64 i ∧ Below w.heap.size w wx ∧ ∀ j, j < i → l.getD j 0 = m.getD j 0)
  case atStart => exact ⟨0, by omega, rfl, Below.refl _ _, fun j hj => by omega⟩
  case round =>
    obtain ⟨i, hig, rfl, hB, heq⟩ := hrel
    have EQ := Shut.mk heq
    clear heq
    by_cases hi : i < l.length
    · obtain ⟨bb, off, cp, hv, hcp, c0⟩ := get_of_block (below_rb hB HL.out) hi
      injection hv with hv _ hv3
      subst hv hv3
      have hi2 : i < m.length := by have := HE.out; omega
      obtain ⟨bb2, off2, cp2, hv, hcp2, c1⟩ := get_of_block (below_rb hB HM.out) hi2
      injection hv with hv _ hv3
      subst hv hv3
      obtain ⟨c, hcd⟩ : ∃ c, l.getD i 0 = c := ⟨_, rfl⟩
      obtain ⟨d, hdd⟩ : ∃ d, m.getD i 0 = d := ⟨_, rfl⟩
      rw [hcd] at c0
      rw [hdd] at c1
      have CD := Shut.mk (And.intro hcd hdd)
      clear hcd hdd
      by_cases hcd : c = d
      · subst hcd
        have hne : ((c.toNat : Int) != (c.toNat : Int)) = false := by simp
        go_wp2
        go_quiet (fail)
        go_wp2
        go_roundg (gk - 1)
        case measure => omega
        case rel =>
          refine ⟨i + 1, by omega, by go_num, hB.trans ⟨rfl, rfl, rfl, Nat.le_refl _, fun _ _ => rfl⟩, fun j hj => ?_⟩
          by_cases e : j = i
          · subst e; rw [CD.out.1, CD.out.2]
          · exact EQ.out j (by omega)
      · have hne : ((c.toNat : Int) != (d.toNat : Int)) = true := by
          rw [bne_iff_ne]
          intro e
          exact hcd (UInt8.toNat_inj.1 (by simpa using Int.ofNat.inj e))
        have hd : Shut (decide (l = m) = false) := ⟨decide_eq_false fun e => hcd (by rw [← CD.out.1, ← CD.out.2, e])⟩
        go_wp2
        go_quiet (fail)
        go_wp2
        go_ret
        exact ⟨by rw [hd.out]; rfl, hB.trans ⟨rfl, rfl, rfl, Nat.le_refl _, fun _ _ => rfl⟩⟩
    · have hd : Shut (decide (l = m) = true) := ⟨decide_eq_true (List.ext_getElem HE.out fun j h1 h2 => by
        have := EQ.out j (by omega)
        simpa only [List.getD_eq_getElem?_getD, List.getElem?_eq_getElem h1, List.getElem?_eq_getElem h2, Option.getD_some] using this)⟩
      go_wp2
      go_ret
      exact ⟨by rw [hd.out]; rfl, hB⟩

end Go.Proofs.Qxb6609191aDoor
