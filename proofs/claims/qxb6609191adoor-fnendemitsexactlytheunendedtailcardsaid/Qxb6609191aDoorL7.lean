/-
  Seat b6609191aD: FnEndEmitsExactlyTheUnendedTail, walked.
-/
import Derived.Test.Qxb6609191aDoorLw
namespace Go.Proofs.Qxb6609191aDoor
open Go.RowKit Go.Lib

set_option maxHeartbeats 2000000 in
theorem zzBytes29s (v u : Value) (l m : List UInt8) (cr : Bool) (w : World) (hr : Rc w v l) (hu : Rc w u m) (h1 : l.length ≤ 262144) (h2 : m.length ≤ 262144) : Calls Tryd.prog 29 #[v, .bool cr, u] w fun e w' => e = .returned (.bool true) ∧ w' = w := by
  obtain ⟨ad, cap, rfl, hcap⟩ := hr.val
  obtain ⟨ad2, cap2, rfl, hcap2⟩ := hu.val
  clear hr hu
  go_enter Tryd.func29, Tryd.ntmps29
  go_wp2
  go_ret
  exact ⟨rfl, rfl⟩

set_option maxHeartbeats 4000000 in
set_option maxRecDepth 100000 in
theorem law7_big (v u : Value) (l m : List UInt8) (cr : Bool) (w : World) (hr : Rc w v l) (hu : Rc w u m) (h1 : l.length ≤ 140737488355328) (h2 : m.length ≤ 140737488355328) (hb : 262144 < l.length ∨ 262144 < m.length) :
    Calls Tryd.prog 7 #[v, .bool cr, u] w fun e w' => e = .returned (.bool true) ∧ Below w.heap.size w w' := by
  have k := zzBytes29 v u l m cr w hr hu h1 h2
  obtain ⟨ad, cap, rfl, hcap⟩ := hr.val
  obtain ⟨ad2, cap2, rfl, hcap2⟩ := hu.val
  clear hr hu
  by_cases h3 : 262144 < l.length
  · clear hb
    go_enter Tryd.func7, Tryd.ntmps7
    go_wp2_with (go_at_call 29; refine k.mono ?_; rintro e w1 ⟨⟨bz, rfl⟩, hw1⟩; rw [hw1]; clear hw1 w1)
    all_goals
      go_ret
      exact ⟨rfl, Below.refl _ _⟩
  · have h4 : 262144 < m.length := by omega
    clear hb
    go_enter Tryd.func7, Tryd.ntmps7
    go_wp2_with (go_at_call 29; refine k.mono ?_; rintro e w1 ⟨⟨bz, rfl⟩, hw1⟩; rw [hw1]; clear hw1 w1)
    all_goals
      go_ret
      exact ⟨rfl, Below.refl _ _⟩

set_option maxHeartbeats 4000000 in
set_option maxRecDepth 100000 in
theorem law7_off (v u : Value) (l m : List UInt8) (cr : Bool) (w : World) (hr : Rc w v l) (hu : Rc w u m) (h1 : l.length ≤ 262144) (h2 : m.length ≤ 262144) (ho : (noE l && (!cr || l.isEmpty)) = false) :
    Calls Tryd.prog 7 #[v, .bool cr, u] w fun e w' => e = .returned (.bool true) ∧ Below w.heap.size w w' := by
  have k := zzBytes29s v u l m cr w hr hu h1 h2
  have k10 := stateOK10 v l cr w hr (by omega)
  rw [ho] at k10
  obtain ⟨ad, cap, rfl, hcap⟩ := hr.val
  obtain ⟨ad2, cap2, rfl, hcap2⟩ := hu.val
  clear hr hu
  go_enter Tryd.func7, Tryd.ntmps7
  go_wp2_with (first
    | (go_at_call 29; refine k.mono ?_; rintro e w1 ⟨rfl, hw1⟩; rw [hw1]; clear hw1 w1)
    | (go_at_call 10; refine k10.mono ?_; rintro e w1 ⟨rfl, hw1⟩; rw [hw1]; clear hw1 w1))
  go_ret
  exact ⟨rfl, Below.refl _ _⟩

/-- The trail lies beside the splitter's row. -/
theorem trail_at {w2 w3 : World} {vP vt : Value} {part t : List UInt8} (h2 : w2.ownsRow 0 5 1 vP part.length (part.map bv)) (h3 : w3.ownsRow w2.heap.size 5 1 vt t.length (t.map bv)) : Rb w3 vP.ownBlock vt t :=
  owns_reads h3 _ (fun k hk e => by
    obtain ⟨cur, hc, _⟩ := owns_block h2 e
    have h1 := lt_of_heap hc
    have h2 := (h3.lt k hk).1
    omega)

set_option maxHeartbeats 8000000 in
set_option maxRecDepth 100000 in
theorem law7_on (v u : Value) (part pp : List UInt8) (cr : Bool) (w : World) (hr : Rc w v part) (hu : Rc w u pp) (h1 : part.length ≤ 262144) (h2 : pp.length ≤ 262144) (hG : Gl w) (ho : (noE part && (!cr || part.isEmpty)) = true) :
    Calls Tryd.prog 7 #[v, .bool cr, u] w fun e w' => e = .returned (.bool true) ∧ Below w.heap.size w w' := by
  have k := zzBytes29s v u part pp cr w hr hu h1 h2
  have k10 := stateOK10 v part cr w hr (by omega)
  rw [ho] at k10
  obtain ⟨ad, cap, rfl, hcap⟩ := hr.val
  have HR := Shut.mk hr
  have HU := Shut.mk hu
  have HG := Shut.mk hG
  have HK := Shut.mk (ok_facts ho)
  have HB := Shut.mk (And.intro h1 h2)
  have hu2 := hu
  obtain ⟨ad2, cap2, rfl, hcap2, hnil⟩ := hu2
  clear hr hu hG ho
  go_enter Tryd.func7, Tryd.ntmps7
  go_upto_region 9 with (first
    | (go_at_call 29; refine k.mono ?_; rintro e w1 ⟨rfl, hw1⟩; rw [hw1]; clear hw1 w1)
    | (go_at_call 10; refine k10.mono ?_; rintro e w1 ⟨rfl, hw1⟩; rw [hw1]; clear hw1 w1))
  rename_i Kr hKr Kb hKb
  have hcut : ∀ a w', Fr a 88 ∧ sl a 0 = .slice ad part.length cap ∧ sl a 1 = .bool cr ∧ Below w.heap.size w w' ∧ Rb w' none (sl a 2) pp → Kr a w' := by
    rintro a w1 ⟨hf, s0, s1, hB, hRp⟩
    clear hKb Kb
    obtain ⟨u, hu, ha⟩ := frame88 a hf
    rw [hu] at s0 s1 hRp
    subst ha
    clear hf hu
    simp only [s0, s1]
    clear s0 s1
    have RP := Shut.mk hRp
    obtain ⟨adp, cpp, h2p, _⟩ := hRp.val
    have hlen : Shut (part.length + pp.length ≤ 4194304 ∧ part.length ≤ 4194304 ∧ pp.length ≤ 2000000) := ⟨by have := HB.out; omega⟩
    have hlT : Shut ((tr part pp).length ≤ 4194304) := ⟨by have := tr_len pp part; have := HB.out; omega⟩
    have k11 := zzClone11 _ part w1 (Rc.below hB HR.out) hlen.out.2.1
    have HB1 := Shut.mk hB
    have hfd := Shut.mk (fd_tr pp part cr HK.out.2)
    refine hKr _ _ ?_
    rw [h2p] at RP
    rw [h2p]
    clear hKr hRp h2p h1 h2 hB k k10
    generalize hpl : pp.length = np at *
    by_cases hT : tr part pp = []
    · have hend := Shut.mk (ending_nil hT)
      have hTl : (tr part pp).length = 0 := by rw [hT]; rfl
      clear hT
      go_wp2_with (first
        | (go_at_call 11; refine k11.mono ?_; rintro e w2 ⟨vP, rfl, ho2, hn2, hb2⟩; have S2 := Shut.mk (And.intro ho2 (And.intro hn2 hb2)); clear ho2 hn2 hb2 k11)
        | (go_at_call 27; refine (zzTrailing27 none none vP _ part pp w2 (owns_reads S2.out.1 none (fun _ _ h => by cases h)) (below_rb S2.out.2.2 RP.out) (by have := hlen.out; omega)).mono ?_; rintro e w3 ⟨vt, rfl, ho3, hb3⟩; obtain ⟨adt, cpt, rfl, _⟩ := (owns_reads ho3 none (fun _ _ h => by cases h)).val; have T3 := Shut.mk (trail_at S2.out.1 ho3); have S3 := Shut.mk (And.intro ho3 hb3); clear ho3 hb3)
        | (go_at_call 13; refine (zzNew13 w3 vP part cr (below_own S3.out.2 S2.out.1)).mono ?_; rintro e w4 ⟨rfl, hs4, hb4⟩; have T4 := Shut.mk (below_rb hb4 T3.out); have S4 := Shut.mk (And.intro hs4 (chain4 HB1.out S2.out.2.2 S3.out.2 hb4)); clear hs4 hb4)
        | (go_at_call 14; refine (feedW w _ w4 vP part cr _ pp HG.out S4.out.2.1 S4.out.2.2.2.1 (S2.out.2.1.ge S4.out.2.2.2.2 (fun _ h => by cases h)) S4.out.1 (rb_ready RP.out S2.out.2.1 S4.out.2.2.1) (by have := hlen.out; omega) (by have := hlen.out; omega)).mono ?_; rintro e w5 ⟨vL5, vP5, rfl, hs5, hl5, hf5, hn5, hb5, hx5⟩; obtain ⟨adL, cpL, rfl⟩ := hl5.val; rw [hfd.out] at hs5; have T5 := Shut.mk (T4.out.keep S4.out.1.ss hf5 hn5); have S5 := Shut.mk (And.intro hs5 (And.intro hb5 hx5)); clear hs5 hl5 hf5 hn5 hb5 hx5)
        | (go_at_call 28; refine (endW w _ w5 vP5 _ _ S5.out.2.1 S4.out.2.2.2.1 S5.out.2.2 S5.out.1 (by have := hlT.out; omega)).mono ?_; rintro e w6 ⟨vL6, vP6, rfl, hs6, hl6, hf6, hn6, hb6, hx6⟩; obtain ⟨ad6, cp6, rfl, _⟩ := (owns_reads hs6.own none (fun _ _ h => by cases h)).val; rw [hend.out] at hl6; obtain ⟨adE, cpE, rfl⟩ := hl6.val; have T6 := Shut.mk (T5.out.keep S5.out.1.ss hf6 hn6); have S6 := Shut.mk (And.intro hs6 hb6); clear hs6 hl6 hf6 hn6 hb6 hx6)
        | (go_at_call 15; refine (zzState15 _ w6 _ [] false S6.out.1).mono ?_; rintro e w7 ⟨rfl, hb7⟩; have S7 := Shut.mk hb7; clear hb7))
      go_ret
      exact ⟨rfl, S6.out.2.trans (S7.out.mono S6.out.2.size)⟩
    · have hend := Shut.mk (ending_one hT)
      have hpos : 0 < (tr part pp).length := List.length_pos_iff.2 hT
      clear hT
      go_wp2_with (first
        | (go_at_call 11; refine k11.mono ?_; rintro e w2 ⟨vP, rfl, ho2, hn2, hb2⟩; have S2 := Shut.mk (And.intro ho2 (And.intro hn2 hb2)); clear ho2 hn2 hb2 k11)
        | (go_at_call 27; refine (zzTrailing27 none none vP _ part pp w2 (owns_reads S2.out.1 none (fun _ _ h => by cases h)) (below_rb S2.out.2.2 RP.out) (by have := hlen.out; omega)).mono ?_; rintro e w3 ⟨vt, rfl, ho3, hb3⟩; obtain ⟨adt, cpt, rfl, _⟩ := (owns_reads ho3 none (fun _ _ h => by cases h)).val; have T3 := Shut.mk (trail_at S2.out.1 ho3); have S3 := Shut.mk (And.intro ho3 hb3); clear ho3 hb3)
        | (go_at_call 13; refine (zzNew13 w3 vP part cr (below_own S3.out.2 S2.out.1)).mono ?_; rintro e w4 ⟨rfl, hs4, hb4⟩; have T4 := Shut.mk (below_rb hb4 T3.out); have S4 := Shut.mk (And.intro hs4 (chain4 HB1.out S2.out.2.2 S3.out.2 hb4)); clear hs4 hb4)
        | (go_at_call 14; refine (feedW w _ w4 vP part cr _ pp HG.out S4.out.2.1 S4.out.2.2.2.1 (S2.out.2.1.ge S4.out.2.2.2.2 (fun _ h => by cases h)) S4.out.1 (rb_ready RP.out S2.out.2.1 S4.out.2.2.1) (by have := hlen.out; omega) (by have := hlen.out; omega)).mono ?_; rintro e w5 ⟨vL5, vP5, rfl, hs5, hl5, hf5, hn5, hb5, hx5⟩; obtain ⟨adL, cpL, rfl⟩ := hl5.val; rw [hfd.out] at hs5; have T5 := Shut.mk (T4.out.keep S4.out.1.ss hf5 hn5); have S5 := Shut.mk (And.intro hs5 (And.intro hb5 hx5)); clear hs5 hl5 hf5 hn5 hb5 hx5)
        | (go_at_call 28; refine (endW w _ w5 vP5 _ _ S5.out.2.1 S4.out.2.2.2.1 S5.out.2.2 S5.out.1 (by have := hlT.out; omega)).mono ?_; rintro e w6 ⟨vL6, vP6, rfl, hs6, hl6, hf6, hn6, hb6, hx6⟩; obtain ⟨ad6, cp6, rfl, _⟩ := (owns_reads hs6.own none (fun _ _ h => by cases h)).val; rw [hend.out] at hl6; obtain ⟨gE, cpE, e0, rfl, hcE, hc0, hr0⟩ := hl6.get (i := 0) (by simp); obtain ⟨ad0, cp0, rfl, _⟩ := hr0.val; have E6 := Shut.mk (And.intro hc0 hr0); clear hc0 hr0; have T6 := Shut.mk (T5.out.keep S5.out.1.ss hf6 hn6); have S6 := Shut.mk (And.intro hs6 hb6); clear hs6 hl6 hf6 hn6 hb6 hx6)
        | (go_at_call 15; refine (zzState15 _ w6 _ [] false S6.out.1).mono ?_; rintro e w7 ⟨rfl, hb7⟩; have c7 := below_cell0 hb7 (cell_lt E6.out.1) E6.out.1; have S7 := Shut.mk hb7; clear hb7)
        | (go_at_call 17; refine (zzBytesEqual17 _ _ _ _ (tr part pp) (tr part pp) w7 (below_rb S7.out E6.out.2) (below_rb S7.out T6.out) (by have := hlT.out; omega)).mono ?_; rintro e w8 ⟨rfl, hb8⟩; rw [decide_eq_true (rfl : tr part pp = tr part pp)]; have S8 := Shut.mk hb8; clear hb8))
      go_ret
      exact ⟨rfl, (S6.out.2.trans (S7.out.mono S6.out.2.size)).trans (S8.out.mono (Nat.le_trans S6.out.2.size S7.out.size))⟩
  clear hKr
  have CUT := Shut.mk hcut
  clear hcut k k10
  rcases hnil with ⟨rfl, h0, rfl⟩ | ⟨a2, rfl, _⟩
  · have q := neq_nil w
    subst h0
    go_wp2
    exact CUT.out _ _ ⟨⟨rfl, rfl⟩, rfl, rfl, Below.refl _ _, Rb.nil _ _⟩
  · obtain ⟨n, hn⟩ : ∃ n, pp.length = n := ⟨_, rfl⟩
    have hn4 : n ≤ 4194304 := by omega
    rw [hn] at HU hcap2
    rw [hn]
    have q := neq_some a2 n cap2 w
    clear h1 h2
    go_wp2_with (first
      | (at_make; refine wpList_mk5 rfl _ _ rfl n rfl rfl hn4 ?_; rintro w1 ⟨cur, hc1, hc2⟩ hb1 hs1; have HM := Shut.mk (And.intro hc1 (And.intro hc2 hb1)); clear hc1 hc2 hb1)
      | (refine wpList_cp5 rfl _ _ rfl _ n _ pp _ rfl rfl (HU.out.below HM.out.2.2) hn hn4 HM.out.1 HM.out.2.1 ?_; rintro w2 u2 ho2 hb2; have HO := Shut.mk (And.intro ho2 hb2); clear ho2 hb2))
    refine CUT.out _ _ ⟨⟨rfl, rfl⟩, rfl, rfl, HM.out.2.2.trans HO.out.2, ?_⟩
    exact owns_reads HO.out.1 none (fun _ _ h => by cases h)

theorem law7 (v u : Value) (l m : List UInt8) (cr : Bool) (w : World) (hr : Rc w v l) (hu : Rc w u m) (h1 : l.length ≤ 140737488355328) (h2 : m.length ≤ 140737488355328) (hG : Gl w) :
    Calls Tryd.prog 7 #[v, .bool cr, u] w fun e w' => e = .returned (.bool true) ∧ Below w.heap.size w w' := by
  by_cases hb : 262144 < l.length ∨ 262144 < m.length
  · exact law7_big v u l m cr w hr hu h1 h2 hb
  · cases ho : (noE l && (!cr || l.isEmpty)) with
    | false => exact law7_off v u l m cr w hr hu (by omega) (by omega) ho
    | true => exact law7_on v u l m cr w hr hu (by omega) (by omega) hG ho

end Go.Proofs.Qxb6609191aDoor
