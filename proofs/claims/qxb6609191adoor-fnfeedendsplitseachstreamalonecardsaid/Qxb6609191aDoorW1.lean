/-
  Seat b6609191aD: zzIsEnd, zzHasNoEnds, zzStateOK.
-/
import Derived.Test.Qxb6609191aDoorBuf
import Derived.Test.Qxb6609191aDoorPlain
import Derived.Deep.LoopGhost
namespace Go.Proofs.Qxb6609191aDoor
open Go.RowKit Go.Lib

set_option maxHeartbeats 1000000 in
theorem zzIsEnd (b : UInt8) (w : World) : Calls Tryd.prog 24 #[.int .u8 (b.toNat : Int)] w fun e w' => e = .returned (.bool (isE b)) ∧ w' = w := by
  have h13 : (b == 13) = ((b.toNat : Int) == 13) := by
    rw [Bool.eq_iff_iff, beq_iff_eq, beq_iff_eq, ← UInt8.toNat_inj]
    exact ⟨fun h => by rw [h]; rfl, fun h => by simpa using Int.ofNat.inj h⟩
  have h10 : (b == 10) = ((b.toNat : Int) == 10) := by
    rw [Bool.eq_iff_iff, beq_iff_eq, beq_iff_eq, ← UInt8.toNat_inj]
    exact ⟨fun h => by rw [h]; rfl, fun h => by simpa using Int.ofNat.inj h⟩
  have he : isE b = ((b.toNat : Int) == 13 || (b.toNat : Int) == 10) := by unfold isE; rw [h13, h10]
  rw [he]
  clear he h13 h10
  have hlt := b.toNat_lt
  generalize (b.toNat : Int) = n at *
  go_enter Tryd.func24, Tryd.ntmps24
  go_wp2
  all_goals
    go_ret
    refine ⟨?_, rfl⟩
    first
      | rfl
      | simp [*]

/-- Without an ending. -/
def noE (l : List UInt8) : Bool := l.all fun b => !isE b

theorem noE_step (l : List UInt8) (i : Nat) (h : i < l.length) : noE (l.take (i + 1)) = (noE (l.take i) && !isE (l.getD i 0)) := by
  unfold noE
  rw [List.take_add_one, List.all_append, List.getElem?_eq_getElem h, List.getD_eq_getElem?_getD, List.getElem?_eq_getElem h]
  simp

theorem noE_cut (l : List UInt8) (i : Nat) (h : noE (l.take i) = false) : noE l = false := by
  cases hl : noE l with
  | false => rfl
  | true =>
    unfold noE at *
    rw [List.all_eq_true] at hl
    have := List.all_eq_true.2 (fun x hx => hl x (List.mem_of_mem_take (i := i) hx))
    rw [h] at this
    cases this

set_option maxHeartbeats 2000000 in
theorem zzHasNoEnds (x : Option Nat) (v : Value) (l : List UInt8) (w : World) (hr : Rb w x v l) (hl : l.length ≤ 4194304) : Calls Tryd.prog 16 #[v] w fun e w' => e = .returned (.bool (noE l)) ∧ w' = w := by
  obtain ⟨ad, cap, hv, hcap⟩ := hr.val
  have HR := Shut.mk hr
  clear hr
  subst hv
  go_enter Tryd.func16, Tryd.ntmps16
  go_wp2_with fail
  go_loopg [3] l.length (fun g s3 wx => ∃ i : Nat, i + g = l.length ∧ s3 = .int .i64 i ∧ wx = w ∧ noE (l.take i) = true)
  case atStart => exact ⟨0, by omega, rfl, rfl, by simp [noE]⟩
  case round =>
    obtain ⟨i, hig, rfl, rfl, hno⟩ := hrel
    have HN := Shut.mk hno
    clear hno
    by_cases hi : i < l.length
    · obtain ⟨b, off, cap2, hv, hc2, _, _, hcell⟩ := HR.out.at (fun h => by rw [h] at hi; simp at hi)
      injection hv with hv hv2 hv3
      subst hv hv3
      have c0 := hcell i hi
      have st := Shut.mk (noE_step l i hi)
      clear hcell
      cases hE : isE (l.getD i 0) with
      | true =>
        have hb := zzIsEnd (l.getD i 0) wr
        rw [hE] at hb
        unfold bv at c0
        generalize ((l.getD i 0).toNat : Int) = n at *
        go_wp2_with (go_at_call 24; refine hb.mono ?_; rintro e w1 ⟨rfl, hw1⟩; rw [hw1]; clear hw1 w1)
        go_ret
        refine ⟨?_, rfl⟩
        rw [noE_cut l (i + 1) (by rw [st.out, hE]; simp)]
        rfl
      | false =>
        have hb := zzIsEnd (l.getD i 0) wr
        rw [hE] at hb
        unfold bv at c0
        generalize ((l.getD i 0).toNat : Int) = n at *
        go_wp2_with (go_at_call 24; refine hb.mono ?_; rintro e w1 ⟨rfl, hw1⟩; rw [hw1]; clear hw1 w1)
        go_roundg (gk - 1)
        case measure => omega
        case rel => exact ⟨i + 1, by omega, by go_num, rfl, by rw [st.out, hE, HN.out]; rfl⟩
    · go_wp2
      go_ret
      refine ⟨?_, rfl⟩
      have := HN.out
      rw [List.take_of_length_le (by omega)] at this
      rw [this]
      rfl

set_option maxHeartbeats 2000000 in
theorem zzStateOK (x : Option Nat) (v : Value) (l : List UInt8) (cr : Bool) (w : World) (hr : Rb w x v l) (hl : l.length ≤ 4194304) : Calls Tryd.prog 10 #[v, .bool cr] w fun e w' => e = .returned (.bool (noE l && (!cr || l.isEmpty))) ∧ w' = w := by
  have k1 := zzHasNoEnds x v l w hr hl
  obtain ⟨ad, cap, hv, hcap⟩ := hr.val
  clear hr
  subst hv
  have he : l.isEmpty = ((l.length : Int) == 0) := by
    cases l with
    | nil => rfl
    | cons b l => simp; omega
  rw [he]
  generalize noE l = n at *
  go_enter Tryd.func10, Tryd.ntmps10
  go_wp2_with (go_at_call 16; refine k1.mono ?_; rintro e w1 ⟨rfl, hw1⟩; rw [hw1]; clear hw1 w1)
  all_goals
    go_ret
    refine ⟨?_, rfl⟩
    first
      | rfl
      | simp [*]

end Go.Proofs.Qxb6609191aDoor
