/-
  Seat b6606413aF: zzValidUTF8.
-/
import Derived.Test.Qxb6606413aFmtVd
import Derived.LoopN
import Derived.Deep.LoopGhost
namespace Go.Proofs.Qxb6606413aFmt
open Go.RowKit Go.Lib

/-- A fact that no tactic looks into. -/
structure Shut (p : Prop) : Prop where
  out : p

theorem top_fin : ∀ n : Fin 256, (bits BinOp.and IntKind.u8 ((n.val : Nat) : Int) 192 != 128) = !(decide (128 ≤ n.val ∧ n.val < 192)) := by decide +kernel
theorem top_yes (b : UInt8) (h : 128 ≤ b.toNat ∧ b.toNat < 192) : (bits BinOp.and IntKind.u8 (b.toNat : Int) 192 != 128) = false := by
  have := top_fin ⟨b.toNat, b.toNat_lt⟩
  simp only at this
  rw [this]
  simp [h]
theorem top_no (b : UInt8) (h : ¬ (128 ≤ b.toNat ∧ b.toNat < 192)) : (bits BinOp.and IntKind.u8 (b.toNat : Int) 192 != 128) = true := by
  have := top_fin ⟨b.toNat, b.toNat_lt⟩
  simp only at this
  rw [this]
  simp [h]

theorem vd_badB (s : ByteArray) (i : Nat) (h : i < s.size) (h0 : 128 ≤ s[i].toNat) (h2 : ¬ good2 (s.size - i) s[i].toNat (gb s (i + 1))) (h3 : ¬ good3 (s.size - i) s[i].toNat (gb s (i + 1)) (gb s (i + 2)))
    (h4 : ¬ good4 (s.size - i) s[i].toNat (gb s (i + 1)) (gb s (i + 2)) (gb s (i + 3))) : vd s i = false := by
  rw [← gb_eq s i h] at h0 h2 h3 h4
  exact vd_bad s i h h0 h2 h3 h4

set_option maxHeartbeats 8000000 in
set_option maxRecDepth 100000 in
theorem zzValidUTF8 (s : ByteArray) (hs : s.size ≤ 1048576) (w : World) : Calls Tryf.prog 24 #[.string s] w fun e w' => e = .returned (.bool (validD s.data.toList)) ∧ w' = w := by
  have V0 : Hid (validD s.data.toList = vd s 0) := rfl
  go_enter Tryf.func24, Tryf.ntmps24
  go_wp2_with fail
  refine wp_loop_ghost_k (fun g a w' => Fr a 100 ∧ sl a 0 = .string s ∧ w' = w ∧ ∃ i : Nat, sl a 3 = .int .i64 i ∧ g = s.size - i ∧ validD s.data.toList = vd s i) s.size ?_ ?_
  · exact ⟨⟨rfl, rfl⟩, rfl, rfl, 0, rfl, by omega, V0.out⟩
  rintro g a wr ⟨hf, h0, rfl, i, h3, rfl, hv⟩ J1 K1 hJ1 hK1
  obtain ⟨u, hu, ha⟩ := frame100 a hf
  rw [hu] at h0 h3
  subst ha
  clear hf hu V0
  simp only [h0, h3]
  clear h0 h3
  have V := hide hv
  clear hv
  by_cases hi : i < s.size
  case neg =>
    have hv := V.out.trans (vd_end s i hi)
    clear V
    have V := hide hv
    clear hv
    go_wp2
    go_ret
    exact ⟨by rw [V.out]; rfl, rfl⟩
  have c0 := s[i].toNat_lt
  by_cases a1 : s[i].toNat < 128
  case pos =>
    have hv := V.out.trans (vd_low s i hi a1)
    clear V
    have V := hide hv
    clear hv
    go_wp2
    refine Handed.intro (s.size - (i + 1)) (by omega) (hJ1 _ _ _ ?_)
    exact ⟨⟨rfl, rfl⟩, rfl, rfl, i + 1, by go_num, rfl, V.out⟩
  by_cases a2 : s[i].toNat < 194
  case pos =>
    have hv := V.out.trans (vd_badB s i hi (by omega) (by simp only [good2]; omega) (by simp only [good3]; omega) (by simp only [good4]; omega))
    clear V
    have V := hide hv
    clear hv
    go_wp2
    go_ret
    exact ⟨by rw [V.out]; rfl, rfl⟩
  by_cases a3 : 244 < s[i].toNat
  case pos =>
    have hv := V.out.trans (vd_badB s i hi (by omega) (by simp only [good2]; omega) (by simp only [good3]; omega) (by simp only [good4]; omega))
    clear V
    have V := hide hv
    clear hv
    go_wp2
    go_ret
    exact ⟨by rw [V.out]; rfl, rfl⟩
  by_cases a4 : s[i].toNat < 224
  case pos =>
    by_cases hn : i + 1 < s.size
    case neg =>
      have hv := V.out.trans (vd_badB s i hi (by omega) (by simp only [good2]; omega) (by simp only [good3]; omega) (by simp only [good4]; omega))
      clear V
      have V := hide hv
      clear hv
      go_wp2
      go_ret
      exact ⟨by rw [V.out]; rfl, rfl⟩
    have c1 := s[i + 1].toNat_lt
    have e1 := gb_eq s (i + 1) (by omega)
    by_cases g1 : 128 ≤ s[i + 1].toNat ∧ s[i + 1].toNat < 192
    case neg =>
      have hv := V.out.trans (vd_badB s i hi (by omega) (by simp only [good2]; omega) (by simp only [good3]; omega) (by simp only [good4]; omega))
      clear V
      have V := hide hv
      clear hv
      have T1 := top_no s[i + 1] g1
      clear g1 e1
      go_wp2
      refine wp_loop_rounds 2 ?_
      rw [rounds_succ]
      go_wp2
      go_ret
      exact ⟨by rw [V.out]; rfl, rfl⟩
    have T1 := top_yes s[i + 1] g1
    have hv := V.out.trans (vd_two s i hi (by rw [gb_eq s i hi, e1]; simp only [good2]; omega))
    clear V
    have V := hide hv
    clear hv
    clear g1 e1
    go_wp2
    refine wp_loop_rounds 2 ?_
    rw [rounds_succ]
    go_wp2
    rw [rounds_succ]
    go_wp2
    refine Handed.intro (s.size - (i + 2)) (by omega) (hJ1 _ _ _ ?_)
    exact ⟨⟨rfl, rfl⟩, rfl, rfl, i + 2, by go_num, rfl, V.out⟩
  by_cases a5 : s[i].toNat < 240
  case pos =>
    by_cases hn : i + 2 < s.size
    case neg =>
      have hv := V.out.trans (vd_badB s i hi (by omega) (by simp only [good2]; omega) (by simp only [good3]; omega) (by simp only [good4]; omega))
      clear V
      have V := hide hv
      clear hv
      go_wp2
      go_ret
      exact ⟨by rw [V.out]; rfl, rfl⟩
    have c1 := s[i + 1].toNat_lt
    have e1 := gb_eq s (i + 1) (by omega)
    by_cases g1 : 128 ≤ s[i + 1].toNat ∧ s[i + 1].toNat < 192
    case neg =>
      have hv := V.out.trans (vd_badB s i hi (by omega) (by simp only [good2]; omega) (by simp only [good3]; omega) (by simp only [good4]; omega))
      clear V
      have V := hide hv
      clear hv
      have T1 := top_no s[i + 1] g1
      clear g1 e1
      go_wp2
      refine wp_loop_rounds 3 ?_
      rw [rounds_succ]
      go_wp2
      go_ret
      exact ⟨by rw [V.out]; rfl, rfl⟩
    have T1 := top_yes s[i + 1] g1
    have c2 := s[i + 2].toNat_lt
    have e2 := gb_eq s (i + 2) (by omega)
    by_cases g2 : 128 ≤ s[i + 2].toNat ∧ s[i + 2].toNat < 192
    case neg =>
      have hv := V.out.trans (vd_badB s i hi (by omega) (by simp only [good2]; omega) (by simp only [good3]; omega) (by simp only [good4]; omega))
      clear V
      have V := hide hv
      clear hv
      have T2 := top_no s[i + 2] g2
      clear g1 e1
      clear g2 e2
      go_wp2
      refine wp_loop_rounds 3 ?_
      rw [rounds_succ]
      go_wp2
      rw [rounds_succ]
      go_wp2
      go_ret
      exact ⟨by rw [V.out]; rfl, rfl⟩
    have T2 := top_yes s[i + 2] g2
    by_cases q1 : s[i].toNat = 224 ∧ s[i + 1].toNat < 160
    case pos =>
      have hv := V.out.trans (vd_badB s i hi (by omega) (by simp only [good2]; omega) (by simp only [good3]; omega) (by simp only [good4]; omega))
      clear V
      have V := hide hv
      clear hv
      have w1 : Shut (decide ((((s[i].toNat : Int) % 16 * 64 + (s[i + 1].toNat : Int) % 64) * 64 + (s[i + 2].toNat : Int) % 64) < 2048) = true) := by refine ⟨?_⟩; simp only [decide_eq_true_eq]; omega
      clear g1 e1 g2 e2
      clear q1
      go_wp2
      refine wp_loop_rounds 3 ?_
      rw [rounds_succ]
      go_wp2
      rw [rounds_succ]
      go_wp2
      rw [rounds_succ]
      go_upto_region 27 with fail
      generalize (((s[i].toNat : Int) % 16 * 64 + (s[i + 1].toNat : Int) % 64) * 64 + (s[i + 2].toNat : Int) % 64 : Int) = VV at w1 ⊢
      replace w1 := w1.out
      go_wp2
      go_ret
      exact ⟨by rw [V.out]; rfl, rfl⟩
    by_cases q2 : s[i].toNat = 237 ∧ 160 ≤ s[i + 1].toNat
    case pos =>
      have hv := V.out.trans (vd_badB s i hi (by omega) (by simp only [good2]; omega) (by simp only [good3]; omega) (by simp only [good4]; omega))
      clear V
      have V := hide hv
      clear hv
      have w1 : Shut (decide ((((s[i].toNat : Int) % 16 * 64 + (s[i + 1].toNat : Int) % 64) * 64 + (s[i + 2].toNat : Int) % 64) < 2048) = false) := by refine ⟨?_⟩; simp only [decide_eq_false_iff_not]; omega
      have w2 : Shut (decide (55296 ≤ (((s[i].toNat : Int) % 16 * 64 + (s[i + 1].toNat : Int) % 64) * 64 + (s[i + 2].toNat : Int) % 64)) = true) := by refine ⟨?_⟩; simp only [decide_eq_true_eq]; omega
      have w3 : Shut (decide ((((s[i].toNat : Int) % 16 * 64 + (s[i + 1].toNat : Int) % 64) * 64 + (s[i + 2].toNat : Int) % 64) ≤ 57343) = true) := by refine ⟨?_⟩; simp only [decide_eq_true_eq]; omega
      clear g1 e1 g2 e2
      clear q1 q2
      go_wp2
      refine wp_loop_rounds 3 ?_
      rw [rounds_succ]
      go_wp2
      rw [rounds_succ]
      go_wp2
      rw [rounds_succ]
      go_upto_region 27 with fail
      generalize (((s[i].toNat : Int) % 16 * 64 + (s[i + 1].toNat : Int) % 64) * 64 + (s[i + 2].toNat : Int) % 64 : Int) = VV at w1 w2 w3 ⊢
      replace w1 := w1.out
      replace w2 := w2.out
      replace w3 := w3.out
      go_wp2
      go_ret
      exact ⟨by rw [V.out]; rfl, rfl⟩
    have hv := V.out.trans (vd_three s i hi (by rw [gb_eq s i hi, e1, e2]; simp only [good3]; omega))
    clear V
    have V := hide hv
    clear hv
    by_cases q3 : s[i].toNat < 237 ∨ (s[i].toNat = 237 ∧ s[i + 1].toNat < 160)
    case pos =>
      have w1 : Shut (decide ((((s[i].toNat : Int) % 16 * 64 + (s[i + 1].toNat : Int) % 64) * 64 + (s[i + 2].toNat : Int) % 64) < 2048) = false) := by refine ⟨?_⟩; simp only [decide_eq_false_iff_not]; omega
      have w2 : Shut (decide (55296 ≤ (((s[i].toNat : Int) % 16 * 64 + (s[i + 1].toNat : Int) % 64) * 64 + (s[i + 2].toNat : Int) % 64)) = false) := by refine ⟨?_⟩; simp only [decide_eq_false_iff_not]; omega
      clear g1 e1 g2 e2
      clear q1 q2 q3
      go_wp2
      refine wp_loop_rounds 3 ?_
      rw [rounds_succ]
      go_wp2
      rw [rounds_succ]
      go_wp2
      rw [rounds_succ]
      go_upto_region 27 with fail
      generalize (((s[i].toNat : Int) % 16 * 64 + (s[i + 1].toNat : Int) % 64) * 64 + (s[i + 2].toNat : Int) % 64 : Int) = VV at w1 w2 ⊢
      replace w1 := w1.out
      replace w2 := w2.out
      go_wp2
      refine Handed.intro (s.size - (i + 3)) (by omega) (hJ1 _ _ _ ?_)
      exact ⟨⟨rfl, rfl⟩, rfl, rfl, i + 3, by go_num, rfl, V.out⟩
    have w1 : Shut (decide ((((s[i].toNat : Int) % 16 * 64 + (s[i + 1].toNat : Int) % 64) * 64 + (s[i + 2].toNat : Int) % 64) < 2048) = false) := by refine ⟨?_⟩; simp only [decide_eq_false_iff_not]; omega
    have w2 : Shut (decide (55296 ≤ (((s[i].toNat : Int) % 16 * 64 + (s[i + 1].toNat : Int) % 64) * 64 + (s[i + 2].toNat : Int) % 64)) = true) := by refine ⟨?_⟩; simp only [decide_eq_true_eq]; omega
    have w3 : Shut (decide ((((s[i].toNat : Int) % 16 * 64 + (s[i + 1].toNat : Int) % 64) * 64 + (s[i + 2].toNat : Int) % 64) ≤ 57343) = false) := by refine ⟨?_⟩; simp only [decide_eq_false_iff_not]; omega
    clear g1 e1 g2 e2
    clear q1 q2 q3
    go_wp2
    refine wp_loop_rounds 3 ?_
    rw [rounds_succ]
    go_wp2
    rw [rounds_succ]
    go_wp2
    rw [rounds_succ]
    go_upto_region 27 with fail
    generalize (((s[i].toNat : Int) % 16 * 64 + (s[i + 1].toNat : Int) % 64) * 64 + (s[i + 2].toNat : Int) % 64 : Int) = VV at w1 w2 w3 ⊢
    replace w1 := w1.out
    replace w2 := w2.out
    replace w3 := w3.out
    go_wp2
    refine Handed.intro (s.size - (i + 3)) (by omega) (hJ1 _ _ _ ?_)
    exact ⟨⟨rfl, rfl⟩, rfl, rfl, i + 3, by go_num, rfl, V.out⟩
  by_cases hn : i + 3 < s.size
  case neg =>
    have hv := V.out.trans (vd_badB s i hi (by omega) (by simp only [good2]; omega) (by simp only [good3]; omega) (by simp only [good4]; omega))
    clear V
    have V := hide hv
    clear hv
    go_wp2
    go_ret
    exact ⟨by rw [V.out]; rfl, rfl⟩
  have c1 := s[i + 1].toNat_lt
  have e1 := gb_eq s (i + 1) (by omega)
  by_cases g1 : 128 ≤ s[i + 1].toNat ∧ s[i + 1].toNat < 192
  case neg =>
    have hv := V.out.trans (vd_badB s i hi (by omega) (by simp only [good2]; omega) (by simp only [good3]; omega) (by simp only [good4]; omega))
    clear V
    have V := hide hv
    clear hv
    have T1 := top_no s[i + 1] g1
    clear g1 e1
    go_wp2
    refine wp_loop_rounds 4 ?_
    rw [rounds_succ]
    go_wp2
    go_ret
    exact ⟨by rw [V.out]; rfl, rfl⟩
  have T1 := top_yes s[i + 1] g1
  have c2 := s[i + 2].toNat_lt
  have e2 := gb_eq s (i + 2) (by omega)
  by_cases g2 : 128 ≤ s[i + 2].toNat ∧ s[i + 2].toNat < 192
  case neg =>
    have hv := V.out.trans (vd_badB s i hi (by omega) (by simp only [good2]; omega) (by simp only [good3]; omega) (by simp only [good4]; omega))
    clear V
    have V := hide hv
    clear hv
    have T2 := top_no s[i + 2] g2
    clear g1 e1
    clear g2 e2
    go_wp2
    refine wp_loop_rounds 4 ?_
    rw [rounds_succ]
    go_wp2
    rw [rounds_succ]
    go_wp2
    go_ret
    exact ⟨by rw [V.out]; rfl, rfl⟩
  have T2 := top_yes s[i + 2] g2
  have c3 := s[i + 3].toNat_lt
  have e3 := gb_eq s (i + 3) (by omega)
  by_cases g3 : 128 ≤ s[i + 3].toNat ∧ s[i + 3].toNat < 192
  case neg =>
    have hv := V.out.trans (vd_badB s i hi (by omega) (by simp only [good2]; omega) (by simp only [good3]; omega) (by simp only [good4]; omega))
    clear V
    have V := hide hv
    clear hv
    have T3 := top_no s[i + 3] g3
    clear g1 e1
    clear g2 e2
    clear g3 e3
    go_wp2
    refine wp_loop_rounds 4 ?_
    rw [rounds_succ]
    go_wp2
    rw [rounds_succ]
    go_wp2
    rw [rounds_succ]
    go_wp2
    go_ret
    exact ⟨by rw [V.out]; rfl, rfl⟩
  have T3 := top_yes s[i + 3] g3
  by_cases q1 : s[i].toNat = 240 ∧ s[i + 1].toNat < 144
  case pos =>
    have hv := V.out.trans (vd_badB s i hi (by omega) (by simp only [good2]; omega) (by simp only [good3]; omega) (by simp only [good4]; omega))
    clear V
    have V := hide hv
    clear hv
    have w1 : Shut (decide (((((s[i].toNat : Int) % 8 * 64 + (s[i + 1].toNat : Int) % 64) * 64 + (s[i + 2].toNat : Int) % 64) * 64 + (s[i + 3].toNat : Int) % 64) < 65536) = true) := by refine ⟨?_⟩; simp only [decide_eq_true_eq]; omega
    clear g1 e1 g2 e2 g3 e3
    clear q1
    go_wp2
    refine wp_loop_rounds 4 ?_
    rw [rounds_succ]
    go_wp2
    rw [rounds_succ]
    go_wp2
    rw [rounds_succ]
    go_wp2
    rw [rounds_succ]
    go_upto_region 27 with fail
    generalize ((((s[i].toNat : Int) % 8 * 64 + (s[i + 1].toNat : Int) % 64) * 64 + (s[i + 2].toNat : Int) % 64) * 64 + (s[i + 3].toNat : Int) % 64 : Int) = VV at w1 ⊢
    replace w1 := w1.out
    go_wp2
    go_ret
    exact ⟨by rw [V.out]; rfl, rfl⟩
  by_cases q2 : s[i].toNat = 244 ∧ 144 ≤ s[i + 1].toNat
  case pos =>
    have hv := V.out.trans (vd_badB s i hi (by omega) (by simp only [good2]; omega) (by simp only [good3]; omega) (by simp only [good4]; omega))
    clear V
    have V := hide hv
    clear hv
    have w1 : Shut (decide (((((s[i].toNat : Int) % 8 * 64 + (s[i + 1].toNat : Int) % 64) * 64 + (s[i + 2].toNat : Int) % 64) * 64 + (s[i + 3].toNat : Int) % 64) < 65536) = false) := by refine ⟨?_⟩; simp only [decide_eq_false_iff_not]; omega
    have w2 : Shut (decide (1114111 < ((((s[i].toNat : Int) % 8 * 64 + (s[i + 1].toNat : Int) % 64) * 64 + (s[i + 2].toNat : Int) % 64) * 64 + (s[i + 3].toNat : Int) % 64)) = true) := by refine ⟨?_⟩; simp only [decide_eq_true_eq]; omega
    clear g1 e1 g2 e2 g3 e3
    clear q1 q2
    go_wp2
    refine wp_loop_rounds 4 ?_
    rw [rounds_succ]
    go_wp2
    rw [rounds_succ]
    go_wp2
    rw [rounds_succ]
    go_wp2
    rw [rounds_succ]
    go_upto_region 27 with fail
    generalize ((((s[i].toNat : Int) % 8 * 64 + (s[i + 1].toNat : Int) % 64) * 64 + (s[i + 2].toNat : Int) % 64) * 64 + (s[i + 3].toNat : Int) % 64 : Int) = VV at w1 w2 ⊢
    replace w1 := w1.out
    replace w2 := w2.out
    go_wp2
    go_ret
    exact ⟨by rw [V.out]; rfl, rfl⟩
  have hv := V.out.trans (vd_four s i hi (by rw [gb_eq s i hi, e1, e2, e3]; simp only [good4]; omega))
  clear V
  have V := hide hv
  clear hv
  have w1 : Shut (decide (((((s[i].toNat : Int) % 8 * 64 + (s[i + 1].toNat : Int) % 64) * 64 + (s[i + 2].toNat : Int) % 64) * 64 + (s[i + 3].toNat : Int) % 64) < 65536) = false) := by refine ⟨?_⟩; simp only [decide_eq_false_iff_not]; omega
  have w2 : Shut (decide (1114111 < ((((s[i].toNat : Int) % 8 * 64 + (s[i + 1].toNat : Int) % 64) * 64 + (s[i + 2].toNat : Int) % 64) * 64 + (s[i + 3].toNat : Int) % 64)) = false) := by refine ⟨?_⟩; simp only [decide_eq_false_iff_not]; omega
  clear g1 e1 g2 e2 g3 e3
  clear q1 q2
  go_wp2
  refine wp_loop_rounds 4 ?_
  rw [rounds_succ]
  go_wp2
  rw [rounds_succ]
  go_wp2
  rw [rounds_succ]
  go_wp2
  rw [rounds_succ]
  go_upto_region 27 with fail
  generalize ((((s[i].toNat : Int) % 8 * 64 + (s[i + 1].toNat : Int) % 64) * 64 + (s[i + 2].toNat : Int) % 64) * 64 + (s[i + 3].toNat : Int) % 64 : Int) = VV at w1 w2 ⊢
  replace w1 := w1.out
  replace w2 := w2.out
  go_wp2
  refine Handed.intro (s.size - (i + 4)) (by omega) (hJ1 _ _ _ ?_)
  exact ⟨⟨rfl, rfl⟩, rfl, rfl, i + 4, by go_num, rfl, V.out⟩

end Go.Proofs.Qxb6606413aFmt
