/-
  Seat b6609191aD: zzBytesEqual (what it draws said), zzListsEqual.
-/
import Derived.Test.Qxb6609191aDoorLw
namespace Go.Proofs.Qxb6609191aDoor
open Go.RowKit Go.Lib

set_option maxHeartbeats 8000000 in
set_option maxRecDepth 100000 in
theorem zzBytesEqual17d (x y : Option Nat) (va vb : Value) (l m : List UInt8) (w : World) (hl : Rb w x va l) (hm : Rb w y vb m) (hlen2 : m.length ≤ 4194304) :
    Calls Tryd.prog 17 #[va, vb] w fun e w' => e = .returned (.bool (decide (l = m))) ∧ ∃ k, w' = w.drewN k := by
  have HL := Shut.mk hl
  have HM := Shut.mk hm
  obtain ⟨ad, cap, rfl, hcap⟩ := hl.val
  obtain ⟨ad2, cap2, rfl, hcap2⟩ := hm.val
  clear hl hm
  by_cases he : l.length = m.length
  case neg =>
    have hd : Shut (decide (l = m) = false) := ⟨decide_eq_false fun e => he (by rw [e])⟩
    have hne : ((l.length : Int) != (m.length : Int)) = true := by rw [bne_iff_ne]; omega
    go_enter Tryd.func17, Tryd.ntmps17
    go_wp2
    go_ret
    exact ⟨by rw [hd.out]; rfl, 0, (World.drewN_zero w).symm⟩
  have hne : ((l.length : Int) != (m.length : Int)) = false := by rw [bne_eq_false_iff_eq]; omega
  have HE := Shut.mk he
  clear he
  go_enter Tryd.func17, Tryd.ntmps17
  go_wp2
  clear hne
  go_loopg [5] l.length (fun g s5 wx => ∃ i : Nat, i + g = l.length ∧ s5 = .int .i64 i ∧ (∃ k, wx = w.drewN k) ∧ ∀ j, j < i → l.getD j 0 = m.getD j 0)
  case atStart => exact ⟨0, by omega, rfl, ⟨0, (World.drewN_zero w).symm⟩, fun j hj => by omega⟩
  case round =>
    obtain ⟨i, hig, rfl, hk, heq⟩ := hrel
    have hB : Below w.heap.size w wr := by obtain ⟨k, rfl⟩ := hk; exact ⟨rfl, rfl, rfl, Nat.le_refl _, fun _ _ => rfl⟩
    have HKK := Shut.mk hk
    clear hk
    have EQ := Shut.mk heq
    clear heq
    by_cases hi : i < l.length
    · obtain ⟨bb, off, cp, hv, hcp, c0⟩ := get_of_block (below_rb hB HL.out) hi
      injection hv with hv _ hv3
      subst hv hv3
      have hi2 : i < m.length := by have := HE.out; omega
      obtain ⟨bb2, off2, cp2, hv, hcp2, c1⟩ := get_of_block (below_rb hB HM.out) hi2
      injection hv with hv _ hv3
      subst hv hv3
      obtain ⟨c, hcd⟩ : ∃ c, l.getD i 0 = c := ⟨_, rfl⟩
      obtain ⟨d, hdd⟩ : ∃ d, m.getD i 0 = d := ⟨_, rfl⟩
      rw [hcd] at c0
      rw [hdd] at c1
      have CD := Shut.mk (And.intro hcd hdd)
      clear hcd hdd
      by_cases hcd : c = d
      · subst hcd
        have hne : ((c.toNat : Int) != (c.toNat : Int)) = false := by simp
        go_wp2
        go_quiet (fail)
        go_wp2
        go_roundg (gk - 1)
        case measure => omega
        case rel =>
          refine ⟨i + 1, by omega, by go_num, (by obtain ⟨k, hk⟩ := HKK.out; exact ⟨_, by rw [hk, World.drewN_drewN]⟩), fun j hj => ?_⟩
          by_cases e : j = i
          · subst e; rw [CD.out.1, CD.out.2]
          · exact EQ.out j (by omega)
      · have hne : ((c.toNat : Int) != (d.toNat : Int)) = true := by
          rw [bne_iff_ne]
          intro e
          exact hcd (UInt8.toNat_inj.1 (by simpa using Int.ofNat.inj e))
        have hd : Shut (decide (l = m) = false) := ⟨decide_eq_false fun e => hcd (by rw [← CD.out.1, ← CD.out.2, e])⟩
        go_wp2
        go_quiet (fail)
        go_wp2
        go_ret
        exact ⟨by rw [hd.out]; rfl, by obtain ⟨k, hk⟩ := HKK.out; exact ⟨_, by rw [hk, World.drewN_drewN]⟩⟩
    · have hd : Shut (decide (l = m) = true) := ⟨decide_eq_true (List.ext_getElem HE.out fun j h1 h2 => by
        have := EQ.out j (by omega)
        simpa only [List.getD_eq_getElem?_getD, List.getElem?_eq_getElem h1, List.getElem?_eq_getElem h2, Option.getD_some] using this)⟩
      go_wp2
      go_ret
      exact ⟨by rw [hd.out]; rfl, HKK.out⟩

theorem bytesEq_quiet (x y : Option Nat) (va vb : Value) (l m : List UInt8) (w : World) (n : Nat) (hl : Rb w x va l) (hm : Rb w y vb m) (hlen2 : m.length ≤ 4194304) :
    Calls Tryd.prog 17 #[va, vb] (w.drewN n) fun e w'' => e = .returned (.bool (decide (l = m))) ∧ ∃ k, w'' = w.drewN k :=
  Calls.quiet_of (zzBytesEqual17d x y va vb l m (w.drewN n) (below_rb ⟨rfl, rfl, rfl, Nat.le_refl _, fun _ _ => rfl⟩ hl) (below_rb ⟨rfl, rfl, rfl, Nat.le_refl _, fun _ _ => rfl⟩ hm) hlen2)

set_option maxHeartbeats 8000000 in
set_option maxRecDepth 100000 in
theorem zzListsEqual20 (Na Nb : Nat) (x y : Option Nat) (va vb : Value) (A B : List (List UInt8)) (w : World) (hA : Ls Na w x va A) (hB : Ls Nb w y vb B) (hla : A.length ≤ 2000000) (hb : ∀ i, i < B.length → (B.getD i []).length ≤ 4194304) :
    Calls Tryd.prog 20 #[va, vb] w fun e w' => e = .returned (.bool (decide (A = B))) ∧ Below w.heap.size w w' := by
  have HA := Shut.mk hA
  have HB := Shut.mk hB
  have HBL := Shut.mk hb
  obtain ⟨ad, cap, rfl⟩ := hA.val
  obtain ⟨ad2, cap2, rfl⟩ := hB.val
  clear hA hB hb
  by_cases he : A.length = B.length
  case neg =>
    have hd : Shut (decide (A = B) = false) := ⟨decide_eq_false fun e => he (by rw [e])⟩
    have hne : ((A.length : Int) != (B.length : Int)) = true := by rw [bne_iff_ne]; omega
    go_enter Tryd.func20, Tryd.ntmps20
    go_wp2
    go_ret
    exact ⟨by rw [hd.out]; rfl, Below.refl _ _⟩
  have hne : ((A.length : Int) != (B.length : Int)) = false := by rw [bne_eq_false_iff_eq]; omega
  have HE := Shut.mk he
  have hlb : B.length ≤ 2000000 := by omega
  clear he
  go_enter Tryd.func20, Tryd.ntmps20
  go_wp2
  clear hne
  go_loopg [5] A.length (fun g s5 wx => ∃ i : Nat, i + g = A.length ∧ s5 = .int .i64 i ∧ (∃ k, wx = w.drewN k) ∧ ∀ j, j < i → A.getD j [] = B.getD j [])
  case atStart => exact ⟨0, by omega, rfl, ⟨0, (World.drewN_zero w).symm⟩, fun j hj => by omega⟩
  case round =>
    obtain ⟨i, hig, rfl, hk, heq⟩ := hrel
    have hBk : Below w.heap.size w wr := by obtain ⟨k, rfl⟩ := hk; exact ⟨rfl, rfl, rfl, Nat.le_refl _, fun _ _ => rfl⟩
    have HKK := Shut.mk hk
    clear hk
    have EQ := Shut.mk heq
    clear heq
    by_cases hi : i < A.length
    · have hi2 : i < B.length := by have := HE.out; omega
      obtain ⟨ga, cpa, ea, hv, hcpa, ca, ra⟩ := (HA.out.below hBk (fun _ h => h)).get hi
      injection hv with hv _ hv3
      subst hv hv3
      obtain ⟨gb, cpb, eb, hv, hcpb, cb, rb⟩ := (HB.out.below hBk (fun _ h => h)).get hi2
      injection hv with hv _ hv3
      subst hv hv3
      have hbl := HBL.out i hi2
      obtain ⟨la, hla2⟩ : ∃ l, A.getD i [] = l := ⟨_, rfl⟩
      obtain ⟨lb, hlb2⟩ : ∃ l, B.getD i [] = l := ⟨_, rfl⟩
      rw [hla2] at ra
      rw [hlb2] at rb hbl
      have CD := Shut.mk (And.intro hla2 hlb2)
      clear hla2 hlb2
      have Q : Shut (∀ n, Calls Tryd.prog 17 #[ea, eb] (wr.drewN n) fun e w'' => e = .returned (.bool (decide (la = lb))) ∧ ∃ m, w'' = wr.drewN m) := ⟨fun n => bytesEq_quiet x y ea eb la lb wr n ra rb hbl⟩
      obtain ⟨ad3, cp3, rfl, _⟩ := ra.val
      obtain ⟨ad4, cp4, rfl, _⟩ := rb.val
      clear ra rb hbl
      by_cases hcd : la = lb
      · subst hcd
        have Q2 : Shut (∀ n, Calls Tryd.prog 17 #[.slice ad3 la.length cp3, .slice ad4 la.length cp4] (wr.drewN n) fun e w'' => e = .returned (.bool true) ∧ ∃ m, w'' = wr.drewN m) := ⟨fun n => by have := Q.out n; rw [decide_eq_true rfl] at this; exact this⟩
        clear Q
        go_wp2
        go_quiet (first | (go_at_call 17; exact Q2.out _))
        go_wp2
        go_roundg (gk - 1)
        case measure => omega
        case rel =>
          refine ⟨i + 1, by omega, by go_num, (by obtain ⟨k, hk⟩ := HKK.out; exact ⟨_, by rw [hk, World.drewN_drewN]⟩), fun j hj => ?_⟩
          by_cases e : j = i
          · subst e; rw [CD.out.1, CD.out.2]
          · exact EQ.out j (by omega)
      · have Q2 : Shut (∀ n, Calls Tryd.prog 17 #[.slice ad3 la.length cp3, .slice ad4 lb.length cp4] (wr.drewN n) fun e w'' => e = .returned (.bool false) ∧ ∃ m, w'' = wr.drewN m) := ⟨fun n => by have := Q.out n; rw [decide_eq_false hcd] at this; exact this⟩
        clear Q
        have hd : Shut (decide (A = B) = false) := ⟨decide_eq_false fun e => hcd (by rw [← CD.out.1, ← CD.out.2, e])⟩
        go_wp2
        go_quiet (first | (go_at_call 17; exact Q2.out _))
        go_wp2
        go_ret
        exact ⟨by rw [hd.out]; rfl, hBk.trans ⟨rfl, rfl, rfl, Nat.le_refl _, fun _ _ => rfl⟩⟩
    · have hd : Shut (decide (A = B) = true) := ⟨decide_eq_true (List.ext_getElem HE.out fun j h1 h2 => by
        have := EQ.out j (by omega)
        simpa only [List.getD_eq_getElem?_getD, List.getElem?_eq_getElem h1, List.getElem?_eq_getElem h2, Option.getD_some] using this)⟩
      go_wp2
      go_ret
      exact ⟨by rw [hd.out]; rfl, hBk⟩

end Go.Proofs.Qxb6609191aDoor
