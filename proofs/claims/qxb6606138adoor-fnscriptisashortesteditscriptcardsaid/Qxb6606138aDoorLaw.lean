import Derived.Test.Qxb6606138aDoorW10
namespace Go.Proofs.Qxb6606138aDoor
open Go.RowKit

set_option maxRecDepth 100000 in
set_option maxHeartbeats 400000 in
theorem zzScript_any (aF aT : Option Addr) (nF nT cF cT : Nat) (X Y : List ByteArray) (hX : X.length = nF) (hY : Y.length = nT) (hnF : nF ≤ 4096) (hnT : nT ≤ 4096)
    (hsX : ∀ i, i < nF → (X.getD i ByteArray.empty).size ≤ 140737488355328) (hsY : ∀ i, i < nT → (Y.getD i ByteArray.empty).size ≤ 140737488355328)
    (w : World) (hrF : Rd w aF nF (sv X)) (hrT : Rd w aT nT (sv Y)) (c : Nat) (hc : My.Lc (Eqs X Y) nF nT c) (hdist : nF + nT ≤ 2048 + 2 * c) :
    Calls Tryd.prog 19 #[.slice aF nF cF, .slice aT nT cT] w fun e w' => (∃ (O n cap : Nat) (l : List Int), e = .returned (.slice (some ⟨O, 0, none⟩) n cap) ∧ Rd w' (some ⟨O, 0, none⟩) n (bv l) ∧ l.length = n ∧ n ≤ 8192 ∧
      My.Vs (Eqs X Y) l 0 0 nF nT ∧ Canon false l ∧ My.kept l = c) ∧ Below w.heap.size w w' := by
  have H := hide (script_any aF aT nF nT cF cT X Y hX hY hnF hnT hsX hsY w hrF hrT c hc hdist)
  clear hsX hsY hrF hrT hc hdist
  go_enter Tryd.func19, Tryd.ntmps19
  go_wp2_with fail
  refine H.out.mono ?_
  rintro e w' ⟨⟨O, n, cap, l, rfl, h2, h3, h4, h5, h6, h7⟩, h8⟩
  have F := hide (show (∃ (O' n' cap' : Nat) (l : List Int), Ending.returned (.slice (some ⟨O, 0, none⟩) n cap) = .returned (.slice (some ⟨O', 0, none⟩) n' cap') ∧ Rd w' (some ⟨O', 0, none⟩) n' (bv l) ∧ l.length = n' ∧ n' ≤ 8192 ∧ My.Vs (Eqs X Y) l 0 0 nF nT ∧ Canon false l ∧ My.kept l = c) ∧ Below w.heap.size w w' from ⟨⟨O, n, cap, l, rfl, h2, h3, h4, h5, h6, h7⟩, h8⟩)
  clear h2 h3 h4 h5 h6 h7 h8
  go_wp2_with fail
  go_ret
  exact F.out

set_option maxHeartbeats 400000 in
theorem cloneLines_zero (a' : Addr) (cap : Nat) (w : World) :
    Calls Tryd.prog 9 #[.slice (some a') 0 cap] w fun e w' => e = .returned (.slice (some ⟨w.heap.size, 0, none⟩) 0 0) ∧ Below w.heap.size w w' := by
  have hn := fun w => Lib.run_eql_slice_nil (P := Tryd.prog) w 22 9 (some a') 0 cap 0 0 Tryd.underlying22
  obtain ⟨i0, hi, hz0, hz1, hz2⟩ := info_parts Tryd.info9
  go_enter Tryd.func9, Tryd.ntmps9
  go_wp2_with (at_make; refine wpList_make_full _ rfl _ _ 22 rfl w.heap.size 9 i0 (.string ⟨#[]⟩) 1 Tryd.underlying22 hi hz0 hz1 _ _ _ _ 0 rfl rfl rfl rfl (by omega) (by unfold maxLen; omega) (Nat.le_refl _) ?_)
  intro w1 hown hg
  have hb1 : Below w.heap.size w w1 := (Below.refl _ _).grown hg (Nat.le_refl _) (fun k h => by cases h)
  clear hown hg hi hz0 hz1 hz2
  go_wp2
  go_loop [4] (fun i => i = .int .i64 0) (fun _ => 0)
  case atStart => rfl
  case round =>
    subst hrel
    go_wp2
    go_ret
    exact ⟨rfl, hb1⟩

theorem clone_any (a : Option Addr) (n cap : Nat) (ss : List ByteArray) (hlen : n ≤ 1048576) (w : World) (hc : Rd w a n (sv ss)) (ha : a = none → n = 0) :
    Calls Tryd.prog 9 #[.slice a n cap] w fun e w' => (∃ a', e = .returned (.slice a' n n) ∧ Rd w' a' n (sv ss)) ∧ Below w.heap.size w w' := by
  by_cases h0 : n = 0
  · subst h0
    match a with
    | none =>
      refine (cloneLines_nil 0 cap w).mono ?_
      rintro e w' ⟨rfl, rfl⟩
      exact ⟨⟨none, rfl, Or.inl rfl⟩, Below.refl _ _⟩
    | some a' =>
      refine (cloneLines_zero a' cap w).mono ?_
      rintro e w' ⟨rfl, h⟩
      exact ⟨⟨_, rfl, Or.inl rfl⟩, h⟩
  · obtain ⟨b, off, rfl, _⟩ := hc.at h0
    exact cloneLines_any _ n cap ss hlen w hc ha (fun a' h => by cases h; rfl)

set_option maxRecDepth 100000 in
set_option maxHeartbeats 1000000 in
theorem law_any (aF aT : Option Addr) (nF nT cF cT : Nat) (X Y : List ByteArray) (hX : X.length = nF) (hY : Y.length = nT) (hnF : nF ≤ 140737488355328) (hnT : nT ≤ 140737488355328)
    (hsX : ∀ i, i < nF → (X.getD i ByteArray.empty).size ≤ 140737488355328) (hsY : ∀ i, i < nT → (Y.getD i ByteArray.empty).size ≤ 140737488355328)
    (hF0 : aF = none → nF = 0) (hT0 : aT = none → nT = 0)
    (w : World) (hrF : Rd w aF nF (sv X)) (hrT : Rd w aT nT (sv Y)) :
    Calls Tryd.prog 5 #[.slice aF nF cF, .slice aT nT cT] w fun e w' => e = .returned (.bool true) ∧ Below w.heap.size w w' := by
  have C1 := hide (zzBytes_any aF aT nF nT cF cT X Y hnF hnT hsX hsY w hrF hrT)
  by_cases hn : 4096 < nF ∨ 4096 < nT
  · have Hn := hide hn
    go_enter Tryd.func5, Tryd.ntmps5
    go_wp2_with fail
    refine C1.out.mono ?_
    rintro e w' ⟨⟨b, rfl⟩, rfl⟩
    cases b
    · go_wp2_with fail
      go_ret
      exact ⟨rfl, Below.refl _ _⟩
    · by_cases h1 : (4096 : Int) < nF
      · go_wp2_with fail
        go_ret
        exact ⟨rfl, Below.refl _ _⟩
      · have h2 : (4096 : Int) < nT := by have := Hn.out; omega
        go_wp2_with fail
        go_ret
        exact ⟨rfl, Below.refl _ _⟩
  · have h1 : ¬ (4096 : Int) < nF := by omega
    have h2 : ¬ (4096 : Int) < nT := by omega
    have hn1 : nF ≤ 4096 := by omega
    have hn2 : nT ≤ 4096 := by omega
    have C2 := hide (textBytes_any aF nF cF X hn1 hsX w hrF)
    have C3 := hide (textBytes_any aT nT cT Y hn2 hsY w hrT)
    have C4 := hide (lcs_any aF aT nF nT cF cT X Y hX hY hn1 hn2 w hrF hrT)
    have RF := hide hrF
    have RT := hide hrT
    have SX := hide hsX
    have SY := hide hsY
    have A1 := hide hF0
    have A3 := hide hT0
    clear hrF hrT hsX hsY hF0 hT0
    go_enter Tryd.func5, Tryd.ntmps5
    go_wp2_with fail
    refine C1.out.mono ?_
    rintro e w' ⟨⟨b, rfl⟩, rfl⟩
    cases b
    · go_wp2_with fail
      go_ret
      exact ⟨rfl, Below.refl _ _⟩
    go_wp2_with fail
    refine C2.out.mono ?_
    rintro e w' ⟨⟨q1, rfl, q1a, q1b⟩, rfl⟩
    go_wp2_with fail
    refine C3.out.mono ?_
    rintro e w' ⟨⟨q2, rfl, q2a, q2b⟩, rfl⟩
    by_cases hb : (1048576 : Int) < q1 + q2
    · go_wp2_with fail
      go_ret
      exact ⟨rfl, Below.refl _ _⟩
    go_wp2_with fail
    refine C4.out.mono ?_
    rintro e w1 ⟨⟨c, rfl, hc⟩, hb1⟩
    have hcl := My.Lc_le hc
    have Hc := hide hc
    have B1 := hide hb1
    clear hc hb1 C1 C2 C3 C4
    by_cases hd : (2048 : Int) < (nF : Int) + nT - 2 * c
    · go_wp2_with fail
      go_ret
      exact ⟨rfl, B1.out⟩
    go_wp2_with fail
    refine (clone_any aF nF cF X (by omega) w1 (RF.out.below B1.out (Nat.le_refl _)) A1.out).mono ?_
    rintro e w2 ⟨⟨a1, rfl, r1⟩, b2⟩
    have R1 := hide r1
    have B2 := hide (B1.out.trans (b2.mono B1.out.size))
    have B2' := hide b2
    clear r1 b2
    go_wp2_with fail
    refine (clone_any aT nT cT Y (by omega) w2 (RT.out.below B2.out (Nat.le_refl _)) A3.out).mono ?_
    rintro e w3 ⟨⟨a2, rfl, r2⟩, b3⟩
    have R2 := hide r2
    have R1' := hide (R1.out.below b3 (Nat.le_refl _))
    have B3 := hide (B2.out.trans (b3.mono B2.out.size))
    clear r2 b3
    go_wp2_with fail
    refine (zzScript_any a1 a2 nF nT nF nT X Y hX hY hn1 hn2 SX.out SY.out w3 R1'.out R2.out c Hc.out (by omega)).mono ?_
    rintro e w4 ⟨⟨O, n, cap, l, rfl, r3, l1, l2, l3, l4, l5⟩, b4⟩
    have R3 := hide r3
    have R1'' := hide (R1'.out.below b4 (Nat.le_refl _))
    have R2'' := hide (R2.out.below b4 (Nat.le_refl _))
    have B4 := hide (B3.out.trans (b4.mono B3.out.size))
    have L1 := hide l1
    have L3 := hide l3
    have L4 := hide l4
    have L5 := hide l5
    clear r3 b4 l1 l3 l4 l5
    go_wp2_with fail
    refine (opBytes_any (some ⟨O, 0, none⟩) n cap l (by omega) w4 R3.out).mono ?_
    rintro e w5 ⟨⟨a3, rfl, r4⟩, b5⟩
    have R4 := hide r4
    have R1''' := hide (R1''.out.below b5 (Nat.le_refl _))
    have R2''' := hide (R2''.out.below b5 (Nat.le_refl _))
    have B5 := hide (B4.out.trans (b5.mono B4.out.size))
    clear r4 b5
    go_wp2_with fail
    refine (valid_any a1 a2 a3 nF nT n nF nT n X Y l hX hY L1.out (by omega) (by omega) (by omega) L3.out w5 R1'''.out R2'''.out R4.out).mono ?_
    rintro e w6 ⟨rfl, b6⟩
    have R4' := hide (R4.out.below b6 (Nat.le_refl _))
    have B6 := hide (B5.out.trans (b6.mono B5.out.size))
    clear b6
    go_wp2_with fail
    refine (canon_any a3 n n l L1.out (by omega) L4.out w6 R4'.out).mono ?_
    rintro e w7 ⟨rfl, rfl⟩
    go_wp2_with fail
    refine (count_any a3 n n l L1.out (by omega) w7 R4'.out).mono ?_
    rintro e w8 ⟨rfl, rfl⟩
    have hk : ((My.kept l : Int) == (c : Int)) = true := by rw [L5.out]; simp
    go_wp2_with fail
    go_ret
    exact ⟨rfl, B6.out⟩

end Go.Proofs.Qxb6606138aDoor
