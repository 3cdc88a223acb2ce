/-
  Seat b6608953aD: zzEqual, zzAppendRune.
-/
import Derived.Test.Qxb6608953aDoorBuf
namespace Go.Proofs.Qxb6608953aDoor
open Go.RowKit Go.Lib

/-- The lists agree up to k. -/
structure Same (l m : List UInt8) (k : Nat) : Prop where
  le : k ≤ l.length
  eq : l.take k = m.take k

theorem Same.step {l m : List UInt8} {k : Nat} (h : Same l m k) (hl : l.length = m.length) (hk : k < l.length) (he : l.getD k 0 = m.getD k 0) : Same l m (k + 1) := by
  refine ⟨hk, ?_⟩
  have h1 : l.take (k + 1) = l.take k ++ [l.getD k 0] := by
    rw [List.take_add_one]; simp [List.getD_eq_getElem?_getD, hk]
  have h2 : m.take (k + 1) = m.take k ++ [m.getD k 0] := by
    rw [List.take_add_one]; simp [List.getD_eq_getElem?_getD, show k < m.length by omega]
  rw [h1, h2, h.eq, he]

theorem Same.fin {l m : List UInt8} {k : Nat} (h : Same l m k) (hl : l.length = m.length) (hk : ¬ k < l.length) : (l == m) = true := by
  have := h.eq
  rw [List.take_of_length_le (by omega), List.take_of_length_le (by omega)] at this
  simpa using this

set_option maxHeartbeats 1600000 in
theorem zzEqual_n (a b : Option Addr) (ca cb n : Nat) (l m : List UInt8) (w : World) (hn : n ≤ 1000000000) (hl : Hid (l.length = n)) (hm : Hid (m.length = n)) (ha : Rd w a l) (hb : Rd w b m) :
    Calls Tryd.prog 10 #[.slice a n ca, .slice b n cb] w fun e w' => e = .returned (.bool (l == m)) ∧ Below w.heap.size w w' := by
  go_enter Tryd.func10, Tryd.ntmps10
  go_wp2
  go_loopw [5] (fun i wr => ∃ k : Nat, i = .int .i64 k ∧ Same l m k ∧ Below w.heap.size w wr) (fun i _ => n - (intOf i).toNat)
  case atStart => exact ⟨0, rfl, ⟨Nat.zero_le _, rfl⟩, Below.refl _ _⟩
  case round =>
    obtain ⟨k, rfl, hh, hbe⟩ := hrel
    by_cases hlt : k < n
    · have ha' := ha.below hbe
      have hb' := hb.below hbe
      obtain ⟨p, op, rfl, h1⟩ := ha'.at (by intro e; have := hl.out; rw [e] at this; simp at this; omega)
      obtain ⟨q, oq, rfl, h2⟩ := hb'.at (by intro e; have := hm.out; rw [e] at this; simp at this; omega)
      have g1 := h1 k (by have := hl.out; omega)
      have g2 := h2 k (by have := hm.out; omega)
      have HS := hide (hh.step (by have := hl.out; have := hm.out; omega) (by have := hl.out; omega))
      have HH := hide hh
      have HN : Hid (l.getD k 0 ≠ m.getD k 0 → (l == m) = false) := hide (by
        intro h
        simp only [beq_eq_false_iff_ne]
        rintro rfl
        exact h rfl)
      have HB := hide hbe
      clear h1 h2 ha' hb' ha hb hh hbe
      unfold bv at g1 g2
      generalize l.getD k 0 = x at *
      generalize m.getD k 0 = y at *
      by_cases hxy : x = y
      · have HX := hide hxy
        subst hxy
        go_wp2
        go_quiet (fail)
        go_wp2
        go_roundw
        case rel => exact ⟨k + 1, by go_num, HS.out trivial, ⟨HB.out.os, HB.out.tape, HB.out.output, HB.out.size, HB.out.block⟩⟩
        case measure => simp [intOf]; omega
      · have hne : ((x.toNat : Int) == (y.toNat : Int)) = false := by
          simp only [beq_eq_false_iff_ne]
          intro e
          exact hxy (UInt8.toNat.inj (by omega))
        have HX := hide (HN.out hxy)
        clear hxy
        go_wp2
        go_quiet (fail)
        go_wp2
        go_ret
        exact ⟨by rw [HX.out]; rfl, ⟨HB.out.os, HB.out.tape, HB.out.output, HB.out.size, HB.out.block⟩⟩
    · have HF := hide (hh.fin (by have := hl.out; have := hm.out; omega) (by have := hl.out; omega))
      have HB := hide hbe
      clear hbe hh
      go_wp2
      go_ret
      exact ⟨by rw [HF.out]; rfl, HB.out⟩

set_option maxHeartbeats 1600000 in
theorem zzEqual (a b : Option Addr) (ca cb : Nat) (l m : List UInt8) (w : World) (hl : l.length ≤ 1000000000) (hm : m.length ≤ 1000000000) (ha : Rd w a l) (hb : Rd w b m) :
    Calls Tryd.prog 10 #[.slice a l.length ca, .slice b m.length cb] w fun e w' => e = .returned (.bool (l == m)) ∧ Below w.heap.size w w' := by
  by_cases hlen : l.length = m.length
  · have := zzEqual_n a b ca cb l.length l m w hl (hide rfl) (hide hlen.symm) ha hb
    rw [← hlen]
    exact this
  · have e : (l == m) = false := by
      simp only [beq_eq_false_iff_ne]
      rintro rfl
      exact hlen rfl
    rw [e]
    have hne : ((l.length : Int) == (m.length : Int)) = false := by
      simp only [beq_eq_false_iff_ne]
      omega
    clear hlen e ha hb
    go_enter Tryd.func10, Tryd.ntmps10
    go_wp2
    go_ret
    exact ⟨rfl, Below.refl _ _⟩

end Go.Proofs.Qxb6608953aDoor
