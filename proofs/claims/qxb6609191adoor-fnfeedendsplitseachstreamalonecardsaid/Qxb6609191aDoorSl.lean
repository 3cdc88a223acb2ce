/-
  Seat b6609191aD: zzSplitLines.
-/
import Derived.Test.Qxb6609191aDoorAl
namespace Go.Proofs.Qxb6609191aDoor
open Go.RowKit Go.Lib

/-- The bytes from place s up to place i. -/
def sub (n : List UInt8) (s i : Nat) : List UInt8 := (n.drop s).take (i - s)

theorem sub_nil (n : List UInt8) (s : Nat) : sub n s s = [] := by simp [sub]
theorem sub_succ {n : List UInt8} {s i : Nat} (h : s ≤ i) (hi : i < n.length) : sub n s (i + 1) = sub n s i ++ [n.getD i 0] := by
  unfold sub
  rw [show i + 1 - s = (i - s) + 1 by omega, List.take_add_one, List.getElem?_drop, show s + (i - s) = i by omega, List.getElem?_eq_getElem hi, List.getD_eq_getElem?_getD, List.getElem?_eq_getElem hi]
  rfl
theorem sub_len {n : List UInt8} {s i : Nat} (h : s ≤ i) (hi : i ≤ n.length) : (sub n s i).length = i - s := by
  unfold sub
  rw [List.length_take, List.length_drop]
  omega
theorem sub_end {n : List UInt8} {s : Nat} : sub n s n.length = n.drop s := by
  unfold sub
  rw [List.take_of_length_le (by rw [List.length_drop]; omega)]

theorem drop_at {n : List UInt8} {i : Nat} (hi : i < n.length) : n.drop i = n.getD i 0 :: n.drop (i + 1) := by
  rw [List.drop_eq_getElem_cons hi, List.getD_eq_getElem?_getD, List.getElem?_eq_getElem hi]
  rfl

/-- The pieces so far, and what is still to be cut. -/
structure Cut (n : List UInt8) (LL : List (List UInt8)) (s i : Nat) : Prop where
  le : s ≤ i
  li : i ≤ n.length
  eq : spl [] n = LL ++ spl (sub n s i) (n.drop i)
  cnt : LL.length ≤ i

theorem Cut.zero (n : List UInt8) : Cut n [] 0 0 := ⟨Nat.le_refl _, Nat.zero_le _, by rw [sub_nil]; rfl, Nat.le_refl _⟩
theorem Cut.hit {n : List UInt8} {LL : List (List UInt8)} {s i : Nat} (h : Cut n LL s i) (hi : i < n.length) (hc : n.getD i 0 = 10) : Cut n (LL ++ [sub n s i]) (i + 1) (i + 1) := by
  refine ⟨Nat.le_refl _, hi, ?_, by have := h.cnt; simp only [List.length_append, List.length_cons, List.length_nil]; omega⟩
  rw [h.eq, drop_at hi, spl, if_pos hc, sub_nil]
  simp
theorem Cut.miss {n : List UInt8} {LL : List (List UInt8)} {s i : Nat} (h : Cut n LL s i) (hi : i < n.length) (hc : n.getD i 0 ≠ 10) : Cut n LL s (i + 1) := by
  have hle := h.le
  refine ⟨by omega, hi, ?_, by have := h.cnt; omega⟩
  rw [h.eq, drop_at hi, spl, if_neg hc, sub_succ hle hi]
theorem Cut.out {n : List UInt8} {LL : List (List UInt8)} {s : Nat} (h : Cut n LL s n.length) : spl [] n = if s < n.length then LL ++ [n.drop s] else LL := by
  rw [h.eq, List.drop_length, spl, sub_end]
  by_cases hs : s < n.length
  · rw [if_pos hs, if_neg]
    simp only [List.isEmpty_iff]
    intro e
    have := congrArg List.length e
    rw [List.length_drop, List.length_nil] at this
    omega
  · rw [if_neg hs, if_pos, List.append_nil]
    simp only [List.isEmpty_iff]
    exact List.drop_of_length_le (by omega)

theorem Rb.sub {w : World} {x : Option Nat} {b off cap : Nat} {n : List UInt8} (h : Rb w x (.slice (some ⟨b, off, Option.none⟩) n.length cap) n) (s i : Nat) (hs : s ≤ i) (hi : i ≤ n.length) :
    Rb w x (.slice (some ⟨b, off + s, Option.none⟩) (i - s) (cap - s)) (Qxb6609191aDoor.sub n s i) := h.part s i hs hi

set_option maxHeartbeats 8000000 in
set_option maxRecDepth 100000 in
theorem zzSplitLines31 (x x0 : Option Nat) (v : Value) (n : List UInt8) (w : World) (hr : Rb w x v n) (hlen : n.length ≤ 1000000) (hx0 : ∀ k, x0 = some k → k < w.heap.size) :
    Calls Tryd.prog 31 #[v] w fun e w' => ∃ v', e = .returned v' ∧ Ls w.heap.size w' x0 v' (spl [] n) ∧ Below w.heap.size w w' := by
  have HR := Shut.mk hr
  have HX := Shut.mk hx0
  obtain ⟨ad, cap, rfl, hcap⟩ := hr.val
  clear hr hx0
  go_enter Tryd.func31, Tryd.ntmps31
  go_wp2
  refine wp_loop_ghost_k (fun g a w' => Fr a 39 ∧ sl a 0 = .slice ad n.length cap ∧ Below w.heap.size w w' ∧ ∃ (i s : Nat) (LL : List (List UInt8)), sl a 4 = .int .i64 s ∧ sl a 5 = .int .i64 i ∧ i + g = n.length ∧ Cut n LL s i ∧ Ls w.heap.size w' x0 (sl a 3) LL) n.length ?_ ?_
  · exact ⟨⟨rfl, rfl⟩, rfl, Below.refl _ _, 0, 0, [], rfl, rfl, by omega, Cut.zero n, ⟨[], World.ownsRow_nil _ _ _ _, fun i hi => by simp at hi⟩⟩
  rintro g a wr ⟨hf, s0, hB, i, s, LL, s4, s5, hig, hcut, hown⟩ J1 K1 hJ1 hK1
  obtain ⟨u, hu, ha⟩ := frame39 a hf
  rw [hu] at s0 s4 s5 hown
  subst ha
  clear hf hu
  simp only [s0, s4, s5]
  clear s0 s4 s5
  have HO := Shut.mk hown
  obtain ⟨ad3, cap3, h3⟩ := hown.val
  rw [h3] at HO
  rw [h3]
  clear hown h3
  have CU := Shut.mk hcut
  have hsi := hcut.le
  have HN := Shut.mk (show LL.length ≤ 2000000 by have := hcut.cnt; omega)
  clear hcut
  by_cases hil : i < n.length
  case neg =>
    obtain rfl : i = n.length := by omega
    have hout := Shut.mk CU.out.out
    by_cases hs : s < n.length
    · obtain ⟨bb, off, cp, hv, hcp, _⟩ := get_of_block HR.out hs
      injection hv with hv _ hv3
      subst hv hv3
      have R1 := Shut.mk ((below_rb hB HR.out).drop s (by omega))
      have hsl : (n.drop s).length = n.length - s := List.length_drop
      obtain ⟨P, hP⟩ : ∃ P, n.drop s = P := ⟨_, rfl⟩
      rw [hP] at R1 hsl
      have HP := Shut.mk hP
      have HL2 : Shut (P.length ≤ 4194304) := ⟨by omega⟩
      clear hP hsl
      have hne : ¬ cap = s := by omega
      go_wp2_with (first
        | (go_at_call 19; refine (zzConcat19 x Option.none _ _ P [] wr R1.out (Rb.nil _ _) (by have := HL2.out; simp only [List.length_nil]; omega)).mono ?_; rintro e w5 ⟨v5, rfl, ho5, hb5⟩; rw [List.append_nil] at ho5; obtain ⟨ad6, cap6, rfl, _⟩ := (owns_reads ho5 Option.none (fun _ _ h => by cases h)).val; have S5 := Shut.mk (And.intro ho5 hb5); clear ho5 hb5)
        | (at_builtin; refine wpList_push22 rfl _ _ rfl w (.slice ad3 LL.length cap3) LL (.slice ad6 P.length cap6) P _ rfl rfl (hB.trans (S5.out.2.mono hB.size)) (HO.out.below S5.out.2 (fun _ h => h)) (owns_reads S5.out.1 x0 (fun k hk e => by have h1 := HX.out k e; have h2 := (S5.out.1.lt k hk).1; have h3 := hB.size; omega)) rfl HN.out ?_; rintro v6 w6 ho6 hb6; have HO6 := Shut.mk (And.intro ho6 hb6); clear ho6 hb6))
      go_ret
      refine ⟨_, rfl, ?_, HO6.out.2⟩
      rw [hout.out, if_pos hs, HP.out]
      exact HO6.out.1
    · go_wp2
      go_ret
      refine ⟨_, rfl, ?_, hB⟩
      rw [hout.out, if_neg hs]
      exact HO.out
  case pos =>
    obtain ⟨bb, off, cp, hv, hcp, c0⟩ := get_of_block (below_rb hB HR.out) hil
    injection hv with hv _ hv3
    subst hv hv3
    obtain ⟨c, hcd⟩ : ∃ c, n.getD i 0 = c := ⟨_, rfl⟩
    rw [hcd] at c0
    have CD := Shut.mk hcd
    clear hcd
    have clt := c.toNat_lt
    by_cases h10 : c = 10
    · subst h10
      have R1 := Shut.mk ((below_rb hB HR.out).sub s i hsi (by omega))
      have hsl := sub_len hsi (show i ≤ n.length by omega)
      obtain ⟨P, hP⟩ : ∃ P, Qxb6609191aDoor.sub n s i = P := ⟨_, rfl⟩
      rw [hP] at R1 hsl
      have HP := Shut.mk hP
      have HL2 : Shut (P.length ≤ 4194304) := ⟨by omega⟩
      clear hP hsl
      have hne : ¬ cap = s := by omega
      have hb10 : (((10 : UInt8).toNat : Int) == 10) = true := rfl
      go_wp2_with (first
        | (go_at_call 19; refine (zzConcat19 x Option.none _ _ P [] wr R1.out (Rb.nil _ _) (by have := HL2.out; simp only [List.length_nil]; omega)).mono ?_; rintro e w5 ⟨v5, rfl, ho5, hb5⟩; rw [List.append_nil] at ho5; obtain ⟨ad6, cap6, rfl, _⟩ := (owns_reads ho5 Option.none (fun _ _ h => by cases h)).val; have S5 := Shut.mk (And.intro ho5 hb5); clear ho5 hb5)
        | (at_builtin; refine wpList_push22 rfl _ _ rfl w (.slice ad3 LL.length cap3) LL (.slice ad6 P.length cap6) P _ rfl rfl (hB.trans (S5.out.2.mono hB.size)) (HO.out.below S5.out.2 (fun _ h => h)) (owns_reads S5.out.1 x0 (fun k hk e => by have h1 := HX.out k e; have h2 := (S5.out.1.lt k hk).1; have h3 := hB.size; omega)) rfl HN.out ?_; rintro v6 w6 ho6 hb6; have HO6 := Shut.mk (And.intro ho6 hb6); clear ho6 hb6))
      refine Handed.intro (g - 1) (by omega) (hJ1 _ _ _ ?_)
      refine ⟨⟨rfl, rfl⟩, rfl, HO6.out.2, i + 1, i + 1, LL ++ [P], by go_num, by go_num, by omega, ?_, HO6.out.1⟩
      rw [← HP.out]
      exact CU.out.hit hil CD.out
    · have hb10 : ((c.toNat : Int) == 10) = false := by
        rw [beq_eq_false_iff_ne]
        intro e
        exact h10 (UInt8.toNat_inj.1 (by simpa using Int.ofNat.inj e))
      go_wp2
      refine Handed.intro (g - 1) (by omega) (hJ1 _ _ _ ?_)
      exact ⟨⟨rfl, rfl⟩, rfl, hB, i + 1, s, LL, rfl, by go_num, by omega, CU.out.miss hil (by rw [CD.out]; exact h10), HO.out⟩

end Go.Proofs.Qxb6609191aDoor
