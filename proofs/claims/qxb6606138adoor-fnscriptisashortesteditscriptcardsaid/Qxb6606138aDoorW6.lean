import Derived.Test.Qxb6606138aDoorW5
import Derived.Test.Qxb6606138aDoorFrame2
import Derived.Test.Qxb6606138aDoorFr
import Derived.Test.Qxb6606138aDoorParts
namespace Go.Proofs.Qxb6606138aDoor
open Go.RowKit

/-- Behind the loop over the shared head. -/
structure Head (M : Nat → Nat → Prop) (w0 w : World) (S O F B cap N : Nat) (fv tv : Value) (l fw bw : List Int) (fl tl fh th : Nat) (v1 v3 : Value) : Prop where
  out : ∃ c : Nat, v1 = .int .i64 ((fl + c : Nat) : Int) ∧ v3 = .int .i64 ((tl + c : Nat) : Int) ∧ fl + c ≤ fh ∧ tl + c ≤ th ∧ (∀ i, i < c → M (fl + i) (tl + i)) ∧ ¬ (fl + c < fh ∧ tl + c < th ∧ M (fl + c) (tl + c)) ∧
    St w0 w S O F B cap N fv tv (l ++ List.replicate c 32) fw bw

/-- Behind the loop over the shared tail. -/
structure Tail (M : Nat → Nat → Prop) (A Bt fh th : Nat) (v10 : Value) : Prop where
  out : ∃ sh : Nat, v10 = .int .i64 sh ∧ A + sh ≤ fh ∧ Bt + sh ≤ th ∧ (∀ i, i < sh → M (fh - 1 - i) (th - 1 - i)) ∧ ¬ (A < fh - sh ∧ Bt < th - sh ∧ M (fh - 1 - sh) (th - 1 - sh))

/-- What 'compare' does to the window from (fl, tl) to (fh, th): it adds a best script of it. -/
def CompareSays (w0 : World) (S O F B cap N : Nat) (aF aT : Option Addr) (nF nT cF cT : Nat) (X Y : List ByteArray) (sz : Nat) : Prop :=
  ∀ (fl fh tl th : Nat) (l fw bw : List Int) (w : World), fl ≤ fh → fh ≤ nF → tl ≤ th → th ≤ nT → (fh - fl) + (th - tl) ≤ sz → l.length + (fh - fl) + (th - tl) ≤ cap → 2 * (((fh - fl) + (th - tl) + 1) / 2) + 3 ≤ N →
    (∃ l', My.Vs (Eqs X Y) l' fl tl fh th ∧ My.cost l' ≤ 2048) → St w0 w S O F B cap N (.slice aF nF cF) (.slice aT nT cT) l fw bw →
    Calls Tryd.prog 27 #[.pointer (some ⟨S, 0, none⟩), .int .i64 fl, .int .i64 fh, .int .i64 tl, .int .i64 th] w fun e w' =>
      e = .returned (.tuple #[]) ∧ ∃ (l2 fw' bw' : List Int), My.Best (Eqs X Y) l2 fl tl fh th ∧ St w0 w' S O F B cap N (.slice aF nF cF) (.slice aT nT cT) (l ++ l2) fw' bw'

set_option maxRecDepth 100000 in
set_option maxHeartbeats 4000000 in
theorem compare_step (w0 : World) (S O F B cap N : Nat) (aF aT : Option Addr) (nF nT cF cT : Nat) (X Y : List ByteArray) (hX : X.length = nF) (hY : Y.length = nT) (hnF : nF ≤ 4096) (hnT : nT ≤ 4096) (hcap : cap ≤ 1048576)
    (hrF : Rd w0 aF nF (sv X)) (hrT : Rd w0 aT nT (sv Y)) (sz : Nat) (ih : ∀ sz', sz' < sz → CompareSays w0 S O F B cap N aF aT nF nT cF cT X Y sz') : CompareSays w0 S O F B cap N aF aT nF nT cF cT X Y sz := by
  intro fl fh tl th l fw bw w hf1 hf2 ht1 ht2 hsz hlen hN hdist hst
  obtain ⟨i0, hi, hz0, hz1, hz2⟩ := info_parts Tryd.info38
  have Hdist := hide hdist
  have Z1 : Hid (St w0 w S O F B cap N (.slice aF nF cF) (.slice aT nT cT) l fw bw) := hst
  clear hdist hst
  go_enter Tryd.func27, Tryd.ntmps27
  go_wp2
  rename_i Kc hKc
  -- behind the first loop
  have hend1 : ∀ a w', Fr a 145 ∧ sl a 0 = .pointer (some ⟨S, 0, none⟩) ∧ sl a 2 = .int .i64 fh ∧ sl a 4 = .int .i64 th ∧ Head (Eqs X Y) w0 w' S O F B cap N (.slice aF nF cF) (.slice aT nT cT) l fw bw fl tl fh th (sl a 1) (sl a 3) → Kc a w' := by
    rintro a wr ⟨hf, h0, h2, h4, ⟨⟨c, h1, h3, hc1, hc2, hrun, hstop, hst⟩⟩⟩
    obtain ⟨A, hA⟩ : ∃ A, A = fl + c := ⟨_, rfl⟩
    obtain ⟨Bt, hBt⟩ : ∃ Bt, Bt = tl + c := ⟨_, rfl⟩
    rw [← hA] at h1 hc1 hstop
    rw [← hBt] at h3 hc2 hstop
    obtain ⟨u, hu, ha⟩ := frame145 a hf.df hf.sz
    rw [hu] at h0 h1 h2 h3 h4
    subst ha
    clear hf hu
    simp only [h0, h1, h2, h3, h4]
    clear h0 h1 h2 h3 h4
    have HA := hide hA
    have HB := hide hBt
    have Hrun := hide hrun
    have Hstop := hide hstop
    have hAfl : fl ≤ A := by omega
    have hBtl : tl ≤ Bt := by omega
    obtain ⟨lk, hlk⟩ : ∃ lk, lk = l ++ List.replicate c 32 := ⟨_, rfl⟩
    have hlkl : lk.length + (fh - A) + (th - Bt) ≤ cap := by rw [hlk]; simp; omega
    rw [← hlk] at hst
    have Hlk := hide hlk
    have Z2 : Hid (St w0 wr S O F B cap N (.slice aF nF cF) (.slice aT nT cT) lk fw bw) := hst
    clear hst hA hBt hrun hlk hstop Z1
    refine hKc _ _ ?_
    clear hKc
    go_wp2
    rename_i Kd hKd
    have hend2 : ∀ a w', Fr a 145 ∧ sl a 0 = .pointer (some ⟨S, 0, none⟩) ∧ sl a 1 = .int .i64 A ∧ sl a 2 = .int .i64 fh ∧ sl a 3 = .int .i64 Bt ∧ sl a 4 = .int .i64 th ∧ Tail (Eqs X Y) A Bt fh th (sl a 10) ∧ St w0 w' S O F B cap N (.slice aF nF cF) (.slice aT nT cT) lk fw bw → Kd a w' := by
      clear Z2 u
      rintro a wr ⟨hf, h0, h1, h2, h3, h4, ⟨⟨sh, h10, hs1, hs2, htail, hstop2⟩⟩, hst⟩
      obtain ⟨u, hu, ha⟩ := frame145 a hf.df hf.sz
      rw [hu] at h0 h1 h2 h3 h4 h10
      subst ha
      clear hf hu
      simp only [h0, h1, h2, h3, h4, h10]
      clear h0 h1 h2 h3 h4 h10
      have hin := My.inner (c := c) (s := sh) Hdist.out (by have := HA.out; omega) (by have := HB.out; omega)
      rw [← HA.out, ← HB.out] at hin
      have Hin := hide hin
      have Hout : Hid (∀ mid, My.Best (Eqs X Y) mid A Bt (fh - sh) (th - sh) → My.Best (Eqs X Y) (List.replicate c 32 ++ mid ++ List.replicate sh 32) fl tl fh th) := fun mid hb => My.outer (by rw [← HA.out, ← HB.out]; exact hb) (by omega) (by omega) Hrun.out htail
      have Hs2 := hide hstop2
      have Z2 : Hid (St w0 wr S O F B cap N (.slice aF nF cF) (.slice aT nT cT) lk fw bw) := hst
      clear hst htail hin hstop2 hi hz0 hz1 hz2
      refine hKd _ _ ?_
      clear hKd
      have fin : ∀ (mid fw' bw' : List Int) (w2 : World), My.Best (Eqs X Y) mid A Bt (fh - sh) (th - sh) → St w0 w2 S O F B cap N (.slice aF nF cF) (.slice aT nT cT) (lk ++ mid ++ List.replicate sh 32) fw' bw' →
          ∃ (l2 fw' bw' : List Int), My.Best (Eqs X Y) l2 fl tl fh th ∧ St w0 w2 S O F B cap N (.slice aF nF cF) (.slice aT nT cT) (l ++ l2) fw' bw' := by
        intro mid fw' bw' w2 hb h2
        refine ⟨_, fw', bw', Hout.out mid hb, ?_⟩
        rw [Hlk.out] at h2
        rwa [show l ++ (List.replicate c 32 ++ mid ++ List.replicate sh 32) = l ++ List.replicate c 32 ++ mid ++ List.replicate sh 32 by simp [List.append_assoc]]
      have Fin := hide fin
      clear fin
      by_cases e1 : A = fh - sh
      · have b1 : ((A : Int) == (fh : Int) - sh) = true := by simp; omega
        have ek : (th : Int) - sh - Bt = ((th - sh - Bt : Nat) : Int) := by omega
        have Hb : Hid (My.Best (Eqs X Y) (List.replicate (th - sh - Bt) 43) A Bt (fh - sh) (th - sh)) := by
          have := My.best_adds (M := Eqs X Y) A Bt (th - sh - Bt)
          rw [show Bt + (th - sh - Bt) = th - sh by omega] at this
          rw [← e1]; exact this
        have Hek := hide ek
        clear ek
        go_wp2_with fail
        rw [Hek.out]
        refine (add_any w0 S O F B cap N _ _ lk fw bw 43 (th - sh - Bt) hcap (by omega) wr Z2.out).mono ?_
        rintro e w1 ⟨rfl, g1⟩
        have Z3 := hide g1
        clear g1 Z2
        go_wp2_with fail
        refine (add_any w0 S O F B cap N _ _ _ fw bw 32 sh hcap (by simp; omega) w1 Z3.out).mono ?_
        rintro e w2 ⟨rfl, g2⟩
        have Z4 := hide g2
        clear g2 Z3
        go_wp2_with fail
        go_end0
        exact ⟨rfl, Fin.out _ _ _ _ Hb.out Z4.out⟩
      · have b1 : ((A : Int) == (fh : Int) - sh) = false := by simp; omega
        by_cases e2 : Bt = th - sh
        · have b2 : ((Bt : Int) == (th : Int) - sh) = true := by simp; omega
          have ek : (fh : Int) - sh - A = ((fh - sh - A : Nat) : Int) := by omega
          have Hb : Hid (My.Best (Eqs X Y) (List.replicate (fh - sh - A) 45) A Bt (fh - sh) (th - sh)) := by
            have := My.best_rems (M := Eqs X Y) A Bt (fh - sh - A)
            rw [show A + (fh - sh - A) = fh - sh by omega] at this
            rw [← e2]; exact this
          have Hek := hide ek
          clear ek
          go_wp2_with fail
          rw [Hek.out]
          refine (add_any w0 S O F B cap N _ _ lk fw bw 45 (fh - sh - A) hcap (by omega) wr Z2.out).mono ?_
          rintro e w1 ⟨rfl, g1⟩
          have Z3 := hide g1
          clear g1 Z2
          go_wp2_with fail
          refine (add_any w0 S O F B cap N _ _ _ fw bw 32 sh hcap (by simp; omega) w1 Z3.out).mono ?_
          rintro e w2 ⟨rfl, g2⟩
          have Z4 := hide g2
          clear g2 Z3
          go_wp2_with fail
          go_end0
          exact ⟨rfl, Fin.out _ _ _ _ Hb.out Z4.out⟩
        · have b2 : ((Bt : Int) == (th : Int) - sh) = false := by simp; omega
          obtain ⟨n, hn⟩ : ∃ n, n = fh - sh - A := ⟨_, rfl⟩
          obtain ⟨m, hm⟩ : ∃ m, m = th - sh - Bt := ⟨_, rfl⟩
          have ek1 : (fh : Int) - sh = (A : Int) + n := by omega
          have ek2 : (th : Int) - sh = (Bt : Int) + m := by omega
          have hn1 : 1 ≤ n := by omega
          have hAn : A + n ≤ 4096 := by omega
          have hBm : Bt + m ≤ 4096 := by omega
          have hm1 : 1 ≤ m := by omega
          have en : fh - sh = A + n := by omega
          have em : th - sh = Bt + m := by omega
          have hfst : ¬ My.Win (Eqs X Y) A Bt n m 0 0 := fun h => Hstop.out ⟨by omega, by omega, by simpa using h.2.2⟩
          have hlst : ¬ My.Win (Eqs X Y) A Bt n m (n - 1) (m - 1) := fun h => Hs2.out ⟨by omega, by omega, by have := h.2.2; rwa [show A + (n - 1) = fh - 1 - sh by omega, show Bt + (m - 1) = th - 1 - sh by omega] at this⟩
          have hds := Hin.out
          rw [en, em] at hds
          have hdw := My.win_dist hds
          have Hek1 := hide ek1
          have Hek2 := hide ek2
          have Hen := hide en
          have Hem := hide em
          clear ek1 ek2 en em hn hm
          have ih' := hide ih
          clear ih
          go_wp2_with fail
          rw [Hek1.out, Hek2.out]
          refine (snake_any w0 S O F B cap N aF aT nF nT cF cT lk fw bw X Y hX hY hnF hnT hrF hrT A Bt n m (by have := Hen.out; omega) (by have := Hem.out; omega) hn1 hm1 (by have := Hen.out; have := Hem.out; omega) hfst hlst hdw wr Z2.out).mono ?_
          rintro e w1 ⟨x, y, p, v, fw1, bw1, rfl, hmid, g1⟩
          have hins := My.mid_inside hmid
          obtain ⟨hi1, hi2, hi3, hi4, hi5, hi6⟩ := hins
          have hxn : x ≤ n := by omega
          have hym : y ≤ m := by omega
          have hparts := My.mid_parts hmid hdw
          have Hd1 := hide (My.unwin_left hxn hym hparts.1)
          have Hd2 := hide (My.unwin_right hparts.2)
          have Hmid := hide hmid
          have Z3 := hide g1
          clear g1 Z2 hmid hparts hdw hds hfst hlst
          go_wp2_with fail
          rw [show (A : Int) + x = ((A + x : Nat) : Int) by omega, show (Bt : Int) + y = ((Bt + y : Nat) : Int) by omega]
          refine (ih'.out (x + y) (by have := Hen.out; have := Hem.out; omega) A (A + x) Bt (Bt + y) lk fw1 bw1 w1 (by omega) (by have := Hen.out; omega) (by omega) (by have := Hem.out; omega) (by omega) (by have := Hen.out; have := Hem.out; omega) (by have := Hen.out; have := Hem.out; omega) Hd1.out Z3.out).mono ?_
          rintro e w2 ⟨rfl, l1, fw2, bw2, hb1, g2⟩
          have hl1 := My.Vs_length hb1.1
          have Hb1 := hide hb1
          have Z4 := hide g2
          clear g2 Z3 hb1
          go_wp2_with fail
          rw [show (A : Int) + p - ((A : Int) + x) = ((p - x : Nat) : Int) by omega]
          refine (add_any w0 S O F B cap N _ _ _ fw2 bw2 32 (p - x) hcap (by simp; have := Hen.out; have := Hem.out; omega) w2 Z4.out).mono ?_
          rintro e w3 ⟨rfl, g3⟩
          have Z5 := hide g3
          clear g3 Z4
          go_wp2_with fail
          rw [show (A : Int) + p = ((A + p : Nat) : Int) by omega, show (Bt : Int) + v = ((Bt + v : Nat) : Int) by omega, show (A : Int) + n = ((A + n : Nat) : Int) by omega, show (Bt : Int) + m = ((Bt + m : Nat) : Int) by omega]
          refine (ih'.out ((n - p) + (m - v)) (by have := Hen.out; have := Hem.out; omega) (A + p) (A + n) (Bt + v) (Bt + m) _ fw2 bw2 w3 (by omega) (by have := Hen.out; omega) (by omega) (by have := Hem.out; omega) (by omega) (by simp; have := Hen.out; have := Hem.out; omega) (by have := Hen.out; have := Hem.out; omega) Hd2.out Z5.out).mono ?_
          rintro e w4 ⟨rfl, l2, fw3, bw3, hb2, g4⟩
          have hl2 := My.Vs_length hb2.1
          have Hb2 := hide hb2
          have Z6 := hide g4
          clear g4 Z5 hb2
          go_wp2_with fail
          refine (add_any w0 S O F B cap N _ _ _ fw3 bw3 32 sh hcap (by simp; have := Hen.out; have := Hem.out; omega) w4 Z6.out).mono ?_
          rintro e w5 ⟨rfl, g5⟩
          have Z7 := hide g5
          clear g5 Z6
          go_wp2_with fail
          go_end0
          refine ⟨rfl, Fin.out _ fw3 bw3 w5 (by rw [Hen.out, Hem.out]; exact My.best_mid Hmid.out Hb1.out Hb2.out) ?_⟩
          have h7 := Z7.out
          rwa [show lk ++ (l1 ++ List.replicate (p - x) 32 ++ l2) ++ List.replicate sh 32 = lk ++ l1 ++ List.replicate (p - x) 32 ++ l2 ++ List.replicate sh 32 by simp [List.append_assoc]]
    clear hKd
    refine wp_loop_ghost_k (fun g a w' => Fr a 145 ∧ sl a 0 = .pointer (some ⟨S, 0, none⟩) ∧ sl a 1 = .int .i64 A ∧ sl a 2 = .int .i64 fh ∧ sl a 3 = .int .i64 Bt ∧ sl a 4 = .int .i64 th ∧ (∃ sh : Nat, sl a 10 = .int .i64 sh ∧ A + sh ≤ fh ∧ Bt + sh ≤ th ∧ g = fh - A - sh ∧ (∀ i, i < sh → Eqs X Y (fh - 1 - i) (th - 1 - i))) ∧ St w0 w' S O F B cap N (.slice aF nF cF) (.slice aT nT cT) lk fw bw) (fh - A) ?_ ?_
    · exact ⟨⟨rfl, rfl⟩, rfl, rfl, rfl, rfl, rfl, ⟨0, rfl, by omega, by omega, by omega, fun i hi => by omega⟩, Z2.out⟩
    · clear Z2 u
      rintro g a wr ⟨hf, h0, h1, h2, h3, h4, ⟨sh, h10, hs1, hs2, hg, htail⟩, hst⟩ J2 K2 hJ2 hK2
      obtain ⟨u, hu, ha⟩ := frame145 a hf.df hf.sz
      rw [hu] at h0 h1 h2 h3 h4 h10
      subst ha
      clear hf hu
      simp only [h0, h1, h2, h3, h4, h10]
      clear h0 h1 h2 h3 h4 h10
      have Htail := hide htail
      have q0 : wr.cell? ⟨S, 0, none⟩ = some (.slice aF nF cF) := hst.struct'.cell rfl
      have q1 : wr.cell? ⟨S, 1, none⟩ = some (.slice aT nT cT) := hst.struct'.cell rfl
      have rF := hrF.below hst.below (Nat.le_refl _)
      have rT := hrT.below hst.below (Nat.le_refl _)
      have Z2 : Hid (St w0 wr S O F B cap N (.slice aF nF cF) (.slice aT nT cT) lk fw bw) := hst
      clear hst htail
      by_cases c1 : A < fh - sh
      · have c1' : (A : Int) < (fh : Int) - sh := by omega
        by_cases c2 : Bt < th - sh
        · have c2' : (Bt : Int) < (th : Int) - sh := by omega
          obtain ⟨b1, o1, rfl, rF'⟩ := rF.at (by omega)
          obtain ⟨b2, o2, rfl, rT'⟩ := rT.at (by omega)
          have t1 := rF' (fh - 1 - sh) (by omega)
          have t2 := rT' (th - 1 - sh) (by omega)
          unfold sv at t1 t2
          by_cases he : ((X.getD (fh - 1 - sh) ByteArray.empty).toList == (Y.getD (th - 1 - sh) ByteArray.empty).toList) = true
          · have Hm : Hid (Eqs X Y (fh - 1 - sh) (th - 1 - sh)) := ⟨by omega, by omega, he⟩
            clear rF rT rF' rT' hrF hrT
            generalize X.getD (fh - 1 - sh) ByteArray.empty = s1 at t1 he
            generalize Y.getD (th - 1 - sh) ByteArray.empty = s2 at t2 he
            go_wp2
            go_quiet (fail)
            go_wp2
            refine Handed.intro (fh - A - (sh + 1)) (by omega) (hJ2 _ _ _ ?_)
            refine ⟨⟨rfl, rfl⟩, rfl, rfl, rfl, rfl, rfl, ⟨sh + 1, by go_num, by omega, by omega, rfl, fun i hi => ?_⟩, Z2.out.drewN _⟩
            by_cases hic : i < sh
            · exact Htail.out i hic
            · have e : i = sh := by omega
              rw [e]; exact Hm.out
          · have hne : ((X.getD (fh - 1 - sh) ByteArray.empty).toList == (Y.getD (th - 1 - sh) ByteArray.empty).toList) = false := by simpa using he
            have Hm : Hid (¬ (A < fh - sh ∧ Bt < th - sh ∧ Eqs X Y (fh - 1 - sh) (th - 1 - sh))) := fun h => he h.2.2.2.2
            clear rF rT rF' rT' hrF hrT he
            generalize X.getD (fh - 1 - sh) ByteArray.empty = s1 at t1 hne
            generalize Y.getD (th - 1 - sh) ByteArray.empty = s2 at t2 hne
            go_wp2
            go_quiet (fail)
            go_wp2
            exact ⟨⟨rfl, rfl⟩, rfl, rfl, rfl, rfl, rfl, ⟨⟨sh, rfl, by omega, by omega, Htail.out, Hm.out⟩⟩, Z2.out.drewN _⟩
        · have c2' : decide ((Bt : Int) < (th : Int) - sh) = false := by simp; omega
          have Hm : Hid (¬ (A < fh - sh ∧ Bt < th - sh ∧ Eqs X Y (fh - 1 - sh) (th - 1 - sh))) := fun h => c2 h.2.1
          clear rF rT
          go_wp2
          go_quiet (fail)
          go_wp2
          exact ⟨⟨rfl, rfl⟩, rfl, rfl, rfl, rfl, rfl, ⟨⟨sh, rfl, by omega, by omega, Htail.out, Hm.out⟩⟩, Z2.out.drewN _⟩
      · have c1' : decide ((A : Int) < (fh : Int) - sh) = false := by simp; omega
        have Hm : Hid (¬ (A < fh - sh ∧ Bt < th - sh ∧ Eqs X Y (fh - 1 - sh) (th - 1 - sh))) := fun h => c1 h.1
        clear rF rT
        go_wp2
        go_quiet (fail)
        go_wp2
        exact ⟨⟨rfl, rfl⟩, rfl, rfl, rfl, rfl, rfl, ⟨⟨sh, rfl, by omega, by omega, Htail.out, Hm.out⟩⟩, Z2.out.drewN _⟩
  clear hKc
  refine wp_loop_ghost_k (fun g a w' => Fr a 145 ∧ sl a 0 = .pointer (some ⟨S, 0, none⟩) ∧ sl a 2 = .int .i64 fh ∧ sl a 4 = .int .i64 th ∧ (∃ A Bt c : Nat, sl a 1 = .int .i64 A ∧ sl a 3 = .int .i64 Bt ∧ A = fl + c ∧ Bt = tl + c ∧ A ≤ fh ∧ Bt ≤ th ∧ g = fh - A ∧ (∀ i, i < c → Eqs X Y (fl + i) (tl + i)) ∧ St w0 w' S O F B cap N (.slice aF nF cF) (.slice aT nT cT) (l ++ List.replicate c 32) fw bw)) (fh - fl) ?_ ?_
  · exact ⟨⟨rfl, rfl⟩, rfl, rfl, rfl, fl, tl, 0, rfl, rfl, rfl, rfl, hf1, ht1, rfl, fun i hi => by omega, by simpa using Z1.out⟩
  · clear Z1
    rintro g a wr ⟨hf, h0, h2, h4, A, Bt, c, h1, h3, hA, hBt, hAf, hBt2, hg, hrun, hst⟩ J1 K1 hJ1 hK1
    obtain ⟨u, hu, ha⟩ := frame145 a hf.df hf.sz
    rw [hu] at h0 h1 h2 h3 h4
    subst ha
    clear hf hu
    simp only [h0, h1, h2, h3, h4]
    clear h0 h1 h2 h3 h4
    have HA := hide hA
    have HB := hide hBt
    have Hrun := hide hrun
    have q0 : wr.cell? ⟨S, 0, none⟩ = some (.slice aF nF cF) := hst.struct'.cell rfl
    have q1 : wr.cell? ⟨S, 1, none⟩ = some (.slice aT nT cT) := hst.struct'.cell rfl
    have rF := hrF.below hst.below (Nat.le_refl _)
    have rT := hrT.below hst.below (Nat.le_refl _)
    have Z1 : Hid (St w0 wr S O F B cap N (.slice aF nF cF) (.slice aT nT cT) (l ++ List.replicate c 32) fw bw) := hst
    clear hst hA hBt hrun
    by_cases c1 : A < fh
    · have c1' : (A : Int) < (fh : Int) := by omega
      by_cases c2 : Bt < th
      · have c2' : (Bt : Int) < (th : Int) := by omega
        obtain ⟨b1, o1, rfl, rF'⟩ := rF.at (by omega)
        obtain ⟨b2, o2, rfl, rT'⟩ := rT.at (by omega)
        have t1 := rF' A (by omega)
        have t2 := rT' Bt (by omega)
        unfold sv at t1 t2
        by_cases he : ((X.getD A ByteArray.empty).toList == (Y.getD Bt ByteArray.empty).toList) = true
        · have Hm : Hid (Eqs X Y A Bt) := ⟨by omega, by omega, he⟩
          have hS2 : wr.cell? ⟨S, 2, none⟩ = some (opv O (l ++ List.replicate c 32).length cap) := Z1.out.struct'.cell rfl
          have X2 := hide Z1.out.ops
          have hll : (l ++ List.replicate c 32).length + 1 ≤ cap := by simp; have := HA.out; omega
          have XE : Hid (l ++ List.replicate (c + 1) 32 = (l ++ List.replicate c 32) ++ [32]) := by
            show l ++ List.replicate (c + 1) 32 = (l ++ List.replicate c 32) ++ [32]
            rw [List.replicate_succ', List.append_assoc]
          clear rF rT rF' rT' hrF hrT
          generalize X.getD A ByteArray.empty = s1 at t1 he
          generalize Y.getD Bt ByteArray.empty = s2 at t2 he
          generalize l ++ List.replicate c 32 = lk at *
          unfold opv at hS2
          go_wp2
          go_quiet (fail)
          go_wp2_with (at_builtin; refine wpList_append_fits _ rfl _ _ 29 rfl 0 38 i0 1 Tryd.underlying29 hi hz1 O lk.length cap (u8s lk) rfl ((Z1.out.drewN nq).ops.alloc _) ⟨wr.heap.size, 0, none⟩ 1 1 [.int .u8 32] rfl rfl (cell_one_new _ _ _) (by intro u hu; simp at hu; subst hu; rfl) hll ?_)
          intro w1 hown hg
          have R := (Z1.out.drewN nq).pushed _ 32 hown hg
          have hS := ((Z1.out.drewN nq).struct'.alloc _).grown hg (by simp; exact Z1.out.so)
          have f2 := hS.frozen 2
          have c2 : w1.cell? ⟨S, 2, none⟩ = some (opv O lk.length cap) := hS.cell rfl
          have XR := hide R
          clear R hown hg hS hS2
          unfold opv at c2 XR
          go_wp2
          refine Handed.intro (fh - (A + 1)) (by omega) (hJ1 _ _ _ ?_)
          refine ⟨⟨rfl, rfl⟩, rfl, rfl, rfl, A + 1, Bt + 1, c + 1, by go_num, by go_num, by have := HA.out; omega, by have := HB.out; omega, by omega, by omega, rfl, fun i hi => ?_, by rw [XE.out]; exact XR.out⟩
          by_cases hic : i < c
          · exact Hrun.out i hic
          · have e : i = c := by omega
            rw [e, ← HA.out, ← HB.out]; exact Hm.out
        · have hne : ((X.getD A ByteArray.empty).toList == (Y.getD Bt ByteArray.empty).toList) = false := by simpa using he
          have Hm : Hid (¬ (A < fh ∧ Bt < th ∧ Eqs X Y A Bt)) := fun h => he h.2.2.2.2
          clear rF rT rF' rT' hrF hrT he
          generalize X.getD A ByteArray.empty = s1 at t1 hne
          generalize Y.getD Bt ByteArray.empty = s2 at t2 hne
          go_wp2
          go_quiet (fail)
          go_wp2
          exact ⟨⟨rfl, rfl⟩, rfl, rfl, rfl, ⟨⟨c, congrArg (fun z : Nat => Value.int .i64 (z : Int)) HA.out, congrArg (fun z : Nat => Value.int .i64 (z : Int)) HB.out, by have := HA.out; omega, by have := HB.out; omega, Hrun.out, by rw [← HA.out, ← HB.out]; exact Hm.out, Z1.out.drewN _⟩⟩⟩
      · have c2' : decide ((Bt : Int) < (th : Int)) = false := by simp; omega
        have Hm : Hid (¬ (A < fh ∧ Bt < th ∧ Eqs X Y A Bt)) := fun h => c2 h.2.1
        clear rF rT
        go_wp2
        go_quiet (fail)
        go_wp2
        exact ⟨⟨rfl, rfl⟩, rfl, rfl, rfl, ⟨⟨c, congrArg (fun z : Nat => Value.int .i64 (z : Int)) HA.out, congrArg (fun z : Nat => Value.int .i64 (z : Int)) HB.out, by have := HA.out; omega, by have := HB.out; omega, Hrun.out, by rw [← HA.out, ← HB.out]; exact Hm.out, Z1.out.drewN _⟩⟩⟩
    · have c1' : decide ((A : Int) < (fh : Int)) = false := by simp; omega
      have Hm : Hid (¬ (A < fh ∧ Bt < th ∧ Eqs X Y A Bt)) := fun h => c1 h.1
      clear rF rT
      go_wp2
      go_quiet (fail)
      go_wp2
      exact ⟨⟨rfl, rfl⟩, rfl, rfl, rfl, ⟨⟨c, congrArg (fun z : Nat => Value.int .i64 (z : Int)) HA.out, congrArg (fun z : Nat => Value.int .i64 (z : Int)) HB.out, by have := HA.out; omega, by have := HB.out; omega, Hrun.out, by rw [← HA.out, ← HB.out]; exact Hm.out, Z1.out.drewN _⟩⟩⟩

theorem compare_any (w0 : World) (S O F B cap N : Nat) (aF aT : Option Addr) (nF nT cF cT : Nat) (X Y : List ByteArray) (hX : X.length = nF) (hY : Y.length = nT) (hnF : nF ≤ 4096) (hnT : nT ≤ 4096) (hcap : cap ≤ 1048576)
    (hrF : Rd w0 aF nF (sv X)) (hrT : Rd w0 aT nT (sv Y)) (sz : Nat) : CompareSays w0 S O F B cap N aF aT nF nT cF cT X Y sz := by
  induction sz using Nat.strongRecOn with
  | _ sz ih => exact compare_step w0 S O F B cap N aF aT nF nT cF cT X Y hX hY hnF hnT hcap hrF hrT sz ih

end Go.Proofs.Qxb6606138aDoor
