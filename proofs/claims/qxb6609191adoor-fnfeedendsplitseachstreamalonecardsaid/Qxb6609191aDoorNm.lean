/-
  Seat b6609191aD: zzNormalize.
-/
import Derived.Test.Qxb6609191aDoorSl
namespace Go.Proofs.Qxb6609191aDoor
open Go.RowKit Go.Lib

theorem nm_off (c : UInt8) (r : List UInt8) (hc : c ≠ 10) : nm true (c :: r) = nm false (c :: r) := by simp [nm, hc]
theorem nm_lf (r : List UInt8) : nm true (10 :: r) = nm false r := by simp [nm]
theorem nm_len : ∀ (p : List UInt8) (cr : Bool), (nm cr p).length ≤ p.length
  | [], cr => by simp [nm]
  | b :: p, cr => by
    rw [nm]
    have h0 := nm_len p false
    have h1 := nm_len p true
    split
    · split
      · simp only [List.length_cons]; omega
      · simp only [List.length_cons]; omega
    · split
      · simp only [List.length_cons]; omega
      · simp only [List.length_cons]; omega

theorem nm_cr_end {p : List UInt8} {i : Nat} (hi : i < p.length) (hc : p.getD i 0 = 13) (hn : i + 1 < p.length → p.getD (i + 1) 0 ≠ 10) : nm false (p.drop i) = [10] ++ nm false (p.drop (i + 1)) := by
  rw [drop_at hi, hc, nm, if_neg (by decide), if_pos rfl]
  by_cases h : i + 1 < p.length
  · rw [drop_at h, nm_off _ _ (hn h)]
    rfl
  · rw [List.drop_of_length_le (show p.length ≤ i + 1 by omega)]
    rfl
theorem nm_cr_lf {p : List UInt8} {i : Nat} (hi : i < p.length) (hc : p.getD i 0 = 13) (h : i + 1 < p.length) (hn : p.getD (i + 1) 0 = 10) : nm false (p.drop i) = [10] ++ nm false (p.drop (i + 2)) := by
  rw [drop_at hi, hc, nm, if_neg (by decide), if_pos rfl, drop_at h, hn, nm_lf]
  rfl
theorem nm_other {p : List UInt8} {i : Nat} (hi : i < p.length) (hc : p.getD i 0 ≠ 13) : nm false (p.drop i) = [p.getD i 0] ++ nm false (p.drop (i + 1)) := by
  rw [drop_at hi, nm]
  by_cases h10 : p.getD i 0 = 10
  · rw [if_pos h10, if_neg (by simp), h10]
    rfl
  · rw [if_neg h10, if_neg hc]
    rfl

theorem byte_eq (c : UInt8) (k : Nat) (hk : k < 256) : ((c.toNat : Int) == (k : Int)) = decide (c = UInt8.ofNat k) := by
  rw [Bool.eq_iff_iff, beq_iff_eq, decide_eq_true_eq, ← UInt8.toNat_inj, UInt8.toNat_ofNat']
  omega
theorem byte13_yes {c : UInt8} (h : c = 13) : ((c.toNat : Int) == 13) = true := by subst h; rfl
theorem byte13_no {c : UInt8} (h : c ≠ 13) : ((c.toNat : Int) == 13) = false := by
  rw [beq_eq_false_iff_ne]
  intro e
  exact h (UInt8.toNat_inj.1 (by simpa using Int.ofNat.inj e))
theorem byte10_yes {c : UInt8} (h : c = 10) : ((c.toNat : Int) == 10) = true := by subst h; rfl
theorem byte10_no {c : UInt8} (h : c ≠ 10) : ((c.toNat : Int) == 10) = false := by
  rw [beq_eq_false_iff_ne]
  intro e
  exact h (UInt8.toNat_inj.1 (by simpa using Int.ofNat.inj e))

set_option maxHeartbeats 8000000 in
set_option maxRecDepth 100000 in
theorem zzNormalize12 (x y : Option Nat) (va vb : Value) (part p : List UInt8) (cr : Bool) (w : World) (hl : Rb w x va part) (hm : Rb w y vb p) (hlen : part.length + p.length ≤ 1000000) :
    Calls Tryd.prog 12 #[va, .bool cr, vb] w fun e w' => ∃ v', e = .returned v' ∧ w'.ownsRow w.heap.size 5 1 v' (part ++ nm cr p).length ((part ++ nm cr p).map bv) ∧ Below w.heap.size w w' := by
  have HL := Shut.mk hl
  have HM := Shut.mk hm
  obtain ⟨ad, cap, rfl, hcap⟩ := hl.val
  obtain ⟨ad2, cap2, rfl, hcap2⟩ := hm.val
  clear hl hm
  obtain ⟨i0, hi, hz0, hz1, hz2⟩ := info_parts Tryd.info5
  go_enter Tryd.func12, Tryd.ntmps12
  go_wp2_with (at_make; refine wpList_make_own _ rfl _ _ 22 rfl w.heap.size 5 i0 (.int .u8 0) 1 Tryd.underlying22 hi hz0 hz1 _ _ _ (part.length + p.length) rfl rfl (by omega) (by rw [hz2]; omega) (by unfold maxLen; omega) (Nat.le_refl _) ?_; rintro w1 ho1 hg1)
  have hb1 : Below w.heap.size w w1 := (Below.refl _ _).grown hg1 (Nat.le_refl _) (fun k hk => by cases hk)
  clear hg1
  refine wp_loop_ghost_k (fun g a w' => Fr a 79 ∧ sl a 0 = .slice ad part.length cap ∧ sl a 1 = .bool cr ∧ sl a 2 = .slice ad2 p.length cap2 ∧ Below w.heap.size w w' ∧ ∃ i : Nat, sl a 8 = .int .i64 i ∧ i + g = part.length ∧ w'.ownsRow w.heap.size 5 1 (sl a 7) (part.take i).length ((part.take i).map bv)) part.length ?_ ?_
  · exact ⟨⟨rfl, rfl⟩, rfl, rfl, rfl, hb1, 0, rfl, by omega, ho1⟩
  clear hb1 ho1
  rintro g a wr ⟨hf, s0, s1, s2, hB, i, s8, hig, hown⟩ J1 K1 hJ1 hK1
  obtain ⟨u, hu, ha⟩ := frame79 a hf
  rw [hu] at s0 s1 s2 s8 hown
  subst ha
  clear hf hu
  simp only [s0, s1, s2, s8]
  clear s0 s1 s2 s8
  have HO := Shut.mk hown
  obtain ⟨ad5, cap5, h5, _⟩ := (owns_reads hown none (fun _ _ h => by cases h)).val
  rw [h5] at HO
  rw [h5]
  clear hown h5
  have HN := Shut.mk (show (part.take i).length ≤ 4194304 by rw [List.length_take]; omega)
  by_cases hil : i < part.length
  case pos =>
    obtain ⟨bb, off, cp, hv, hcp, c0⟩ := get_of_block (below_rb hB HL.out) hil
    injection hv with hv _ hv3
    subst hv hv3
    obtain ⟨c, hcd⟩ : ∃ c, part.getD i 0 = c := ⟨_, rfl⟩
    rw [hcd] at c0
    have CD := Shut.mk hcd
    clear hcd
    obtain ⟨L, hL⟩ : ∃ L, part.take i = L := ⟨_, rfl⟩
    rw [hL] at HO HN ⊢
    have HLL := Shut.mk hL
    clear hL
    have clt := c.toNat_lt
    go_wp2_with (at_builtin; refine wpList_push5 rfl _ _ rfl w (.slice ad5 L.length cap5) L c _ rfl rfl hB HO.out rfl HN.out ?_; rintro v6 w6 ho6 hb6; have HO6 := Shut.mk (And.intro ho6 hb6); clear ho6 hb6)
    refine Handed.intro (g - 1) (by omega) (hJ1 _ _ _ ?_)
    refine ⟨⟨rfl, rfl⟩, rfl, rfl, rfl, HO6.out.2, i + 1, by go_num, by omega, ?_⟩
    have h6 := HO6.out.1
    rw [← HLL.out, ← CD.out, take_getD part i hil] at h6
    exact h6
  case neg =>
    have HO2 : Shut (wr.ownsRow w.heap.size 5 1 (.slice ad5 part.length cap5) part.length (part.map bv)) := ⟨by
      have := HO.out
      rw [List.take_of_length_le (show part.length ≤ i by omega)] at this
      exact this⟩
    rw [List.take_of_length_le (show part.length ≤ i by omega)]
    obtain rfl : i = part.length := by omega
    clear HO HN
    go_upto_region 7 with fail
    rename_i Kr hKr Kb hKb
    have hcut : ∀ a w', Fr a 79 ∧ sl a 2 = .slice ad2 p.length cap2 ∧ w' = wr ∧ sl a 7 = .slice ad5 part.length cap5 ∧ (∃ i : Nat, sl a 9 = .int .i64 i ∧ i ≤ p.length ∧ nm cr p = nm false (p.drop i)) → Kr a w' := by
      clear hKb Kb
      rintro a w' ⟨hf, s2, hw, s7, i, s9, hip, hnm⟩
      subst hw
      obtain ⟨u, hu, ha⟩ := frame79 a hf
      rw [hu] at s2 s7 s9
      subst ha
      clear hf hu
      simp only [s2, s7, s9]
      clear s2 s7 s9
      have HNM := Shut.mk hnm
      refine hKr _ _ ?_
      clear hKr hnm
      go_wp2
      refine wp_loop_ghost_k (fun g a w' => Fr a 79 ∧ sl a 2 = .slice ad2 p.length cap2 ∧ Below w.heap.size w w' ∧ ∃ (i : Nat) (L : List UInt8), sl a 9 = .int .i64 i ∧ g = p.length - i ∧ i ≤ p.length ∧ L.length ≤ part.length + i ∧ w'.ownsRow w.heap.size 5 1 (sl a 7) L.length (L.map bv) ∧ part ++ nm cr p = L ++ nm false (p.drop i)) (p.length - i) ?_ ?_
      · exact ⟨⟨rfl, rfl⟩, rfl, hB, i, part, rfl, rfl, hip, by omega, HO2.out, by rw [HNM.out]⟩
      clear HO2 HNM hB hig hil hip
      rintro g a wr ⟨hf, s2, hB, i, L, s9, rfl, hip, hLl, hown, heq⟩ J2 K2 hJ2 hK2
      obtain ⟨u, hu, ha⟩ := frame79 a hf
      rw [hu] at s2 s9 hown
      subst ha
      clear hf hu
      simp only [s2, s9]
      clear s2 s9
      have HO := Shut.mk hown
      obtain ⟨ad5, cap5, h5, _⟩ := (owns_reads hown none (fun _ _ h => by cases h)).val
      rw [h5] at HO
      rw [h5]
      clear hown h5
      have EQ := Shut.mk heq
      have HN := Shut.mk (show L.length ≤ 4194304 by omega)
      have HLl := Shut.mk hLl
      clear heq hLl
      by_cases hil : i < p.length
      case neg =>
        obtain rfl : i = p.length := by omega
        go_wp2
        go_ret
        refine ⟨_, rfl, ?_, hB⟩
        rw [EQ.out, List.drop_length, show nm false [] = [] from rfl, List.append_nil]
        exact HO.out
      obtain ⟨bb, off, cp, hv, hcp, c0⟩ := get_of_block (below_rb hB HM.out) hil
      injection hv with hv _ hv3
      subst hv hv3
      have CN : Shut (∀ (W : World), Below w.heap.size w W → i + 1 < p.length → W.cell? ⟨bb, off + (i + 1), none⟩ = some (.int .u8 ((p.getD (i + 1) 0).toNat : Int))) := ⟨fun W hW hi1 => by
        obtain ⟨b2, o2, cp2, hv, _, c2⟩ := get_of_block (below_rb hW HM.out) hi1
        injection hv with hv _ _
        injection hv with hv
        injection hv with hv hv'
        subst hv hv'
        exact c2⟩
      obtain ⟨c, hcd⟩ : ∃ c, p.getD i 0 = c := ⟨_, rfl⟩
      rw [hcd] at c0
      have CD := Shut.mk hcd
      clear hcd
      have clt := c.toNat_lt
      have hpl : p.length ≤ 1000000 := by omega
      by_cases h13 : c = 13
      · have e13 := byte13_yes h13
        by_cases hi1 : i + 1 < p.length
        · obtain ⟨d, hdd⟩ : ∃ d, p.getD (i + 1) 0 = d := ⟨_, rfl⟩
          have DD := Shut.mk hdd
          clear hdd
          have dlt := d.toNat_lt
          by_cases h10 : d = 10
          · have e10 := byte10_yes h10
            have ST := Shut.mk (nm_cr_lf hil (by rw [CD.out]; exact h13) hi1 (by rw [DD.out]; exact h10))
            clear h13 h10
            go_wp2_with (at_builtin; refine wpList_push5 rfl _ _ rfl w (.slice ad5 L.length cap5) L 10 _ rfl rfl hB HO.out rfl HN.out ?_; rintro v6 w6 ho6 hb6; have HO6 := Shut.mk (And.intro ho6 hb6); have c6 := CN.out w6 hb6 hi1; rw [DD.out] at c6; clear ho6 hb6)
            refine Handed.intro (p.length - (i + 2)) (by omega) (hJ2 _ _ _ ?_)
            refine ⟨⟨rfl, rfl⟩, rfl, HO6.out.2, i + 2, L ++ [10], by go_num, rfl, by omega, by have := HLl.out; simp only [List.length_append, List.length_cons, List.length_nil]; omega, HO6.out.1, ?_⟩
            rw [EQ.out, ST.out, List.append_assoc]
          · have e10 := byte10_no h10
            have ST := Shut.mk (nm_cr_end hil (by rw [CD.out]; exact h13) (fun _ => by rw [DD.out]; exact h10))
            clear h13 h10
            go_wp2_with (at_builtin; refine wpList_push5 rfl _ _ rfl w (.slice ad5 L.length cap5) L 10 _ rfl rfl hB HO.out rfl HN.out ?_; rintro v6 w6 ho6 hb6; have HO6 := Shut.mk (And.intro ho6 hb6); have c6 := CN.out w6 hb6 hi1; rw [DD.out] at c6; clear ho6 hb6)
            refine Handed.intro (p.length - (i + 1)) (by omega) (hJ2 _ _ _ ?_)
            refine ⟨⟨rfl, rfl⟩, rfl, HO6.out.2, i + 1, L ++ [10], by go_num, rfl, by omega, by have := HLl.out; simp only [List.length_append, List.length_cons, List.length_nil]; omega, HO6.out.1, ?_⟩
            rw [EQ.out, ST.out, List.append_assoc]
        · have ST := Shut.mk (nm_cr_end hil (by rw [CD.out]; exact h13) (fun h => absurd h hi1))
          clear h13
          go_wp2_with (at_builtin; refine wpList_push5 rfl _ _ rfl w (.slice ad5 L.length cap5) L 10 _ rfl rfl hB HO.out rfl HN.out ?_; rintro v6 w6 ho6 hb6; have HO6 := Shut.mk (And.intro ho6 hb6); clear ho6 hb6)
          refine Handed.intro (p.length - (i + 1)) (by omega) (hJ2 _ _ _ ?_)
          refine ⟨⟨rfl, rfl⟩, rfl, HO6.out.2, i + 1, L ++ [10], by go_num, rfl, by omega, by have := HLl.out; simp only [List.length_append, List.length_cons, List.length_nil]; omega, HO6.out.1, ?_⟩
          rw [EQ.out, ST.out, List.append_assoc]
      · have e13 := byte13_no h13
        have ST := Shut.mk (nm_other hil (by rw [CD.out]; exact h13))
        clear h13
        go_wp2_with (at_builtin; refine wpList_push5 rfl _ _ rfl w (.slice ad5 L.length cap5) L c _ rfl rfl hB HO.out rfl HN.out ?_; rintro v6 w6 ho6 hb6; have HO6 := Shut.mk (And.intro ho6 hb6); clear ho6 hb6)
        refine Handed.intro (p.length - (i + 1)) (by omega) (hJ2 _ _ _ ?_)
        refine ⟨⟨rfl, rfl⟩, rfl, HO6.out.2, i + 1, L ++ [c], by go_num, rfl, by omega, by have := HLl.out; simp only [List.length_append, List.length_cons, List.length_nil]; omega, HO6.out.1, ?_⟩
        rw [EQ.out, ST.out, List.append_assoc, CD.out]
    clear hKr
    have CUT := Shut.mk hcut
    clear hcut
    cases cr with
    | false =>
      go_wp2
      exact CUT.out _ _ ⟨⟨rfl, rfl⟩, rfl, rfl, rfl, 0, rfl, by omega, by rw [List.drop_zero]⟩
    | true =>
      by_cases hp0 : 0 < p.length
      · obtain ⟨bb, off, cp, hv, hcp, c0⟩ := get_of_block (below_rb hB HM.out) hp0
        injection hv with hv _ hv3
        subst hv hv3
        obtain ⟨c, hcd⟩ : ∃ c, p.getD 0 0 = c := ⟨_, rfl⟩
        rw [hcd, Nat.add_zero] at c0
        have CD := Shut.mk hcd
        clear hcd
        have clt := c.toNat_lt
        by_cases h10 : c = 10
        · have e10 := byte10_yes h10
          have ST : Shut (nm true p = nm false (p.drop 1)) := ⟨by
            have := drop_at hp0
            rw [List.drop_zero, CD.out, h10] at this
            conv => lhs; rw [this]
            rw [nm_lf]⟩
          clear h10
          go_wp2
          exact CUT.out _ _ ⟨⟨rfl, rfl⟩, rfl, rfl, rfl, 1, rfl, by omega, ST.out⟩
        · have e10 := byte10_no h10
          have ST : Shut (nm true p = nm false (p.drop 0)) := ⟨by
            have := drop_at hp0
            rw [List.drop_zero, CD.out] at this
            rw [List.drop_zero]
            conv => lhs; rw [this]
            conv => rhs; rw [this]
            rw [nm_off _ _ h10]⟩
          clear h10
          go_wp2
          exact CUT.out _ _ ⟨⟨rfl, rfl⟩, rfl, rfl, rfl, 0, rfl, by omega, ST.out⟩
      · have hp1 : p = [] := List.length_eq_zero_iff.1 (by omega)
        have ST : Shut (nm true p = nm false (p.drop 0)) := ⟨by rw [hp1]; rfl⟩
        clear hp1
        go_wp2
        exact CUT.out _ _ ⟨⟨rfl, rfl⟩, rfl, rfl, rfl, 0, rfl, by omega, ST.out⟩

end Go.Proofs.Qxb6609191aDoor
