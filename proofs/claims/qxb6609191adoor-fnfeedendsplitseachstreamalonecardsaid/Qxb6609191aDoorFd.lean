/-
  Seat b6609191aD: Feed.
-/
import Derived.Test.Qxb6609191aDoorFi
import Derived.Deep.Cut
namespace Go.Proofs.Qxb6609191aDoor
open Go.RowKit Go.Lib

theorem Rb.drop {w : World} {x : Option Nat} {b off n cap : Nat} {l : List UInt8} (h : Rb w x (.slice (some ⟨b, off, none⟩) n cap) l) (i : Nat) (hi : i ≤ n) : Rb w x (.slice (some ⟨b, off + i, none⟩) (n - i) (cap - i)) (l.drop i) := by
  have hn : l.length = n := by
    obtain ⟨_, _, h1, _⟩ := id h
    injection h1 with _ h1
    exact h1.symm
  have := h.part i n hi (by omega)
  rw [List.take_of_length_le (by rw [List.length_drop]; omega)] at this
  exact this

theorem Rb.take {w : World} {x : Option Nat} {b off n cap : Nat} {l : List UInt8} (h : Rb w x (.slice (some ⟨b, off, none⟩) n cap) l) (j : Nat) (hj : j ≤ n) : Rb w x (.slice (some ⟨b, off, none⟩) j cap) (l.take j) := by
  have hn : l.length = n := by
    obtain ⟨_, _, h1, _⟩ := id h
    injection h1 with _ h1
    exact h1.symm
  have := h.part 0 j (by omega) (by omega)
  simpa using this

theorem Rb.none {w : World} {x : Option Nat} {b off k c : Nat} {l : List UInt8} (hk : k = 0) (hl : l = []) : Rb w x (.slice (some ⟨b, off, none⟩) k c) l := by
  subst hk hl
  exact ⟨_, c, rfl, Nat.zero_le _, .inr ⟨b, off, rfl, .inl rfl⟩⟩

set_option maxHeartbeats 8000000 in
set_option maxRecDepth 100000 in
theorem feed32 (N S O : Nat) (w : World) (vP : Value) (part : List UInt8) (cr : Bool) (vL : Value) (LL : List (List UInt8)) (vp : Value) (pp : List UInt8)
    (hF : Fi N S O vP.ownBlock w w vP cr vP part vL LL vp pp) (hS3 : 3 ≤ S) (hx3 : ∀ k, vP.ownBlock = some k → 3 ≤ k) (hG : Gl w) (hbp : part.length + pp.length ≤ 4194304) (hbl : LL.length + pp.length ≤ 2000000) :
    Calls Tryd.prog 32 #[.pointer (some ⟨S, 0, none⟩), vp, .func (.func 33) #[] #[.pointer (some ⟨O, 0, none⟩)]] w fun e w' => e = .returned (.tuple #[]) ∧
      ∃ vP' vL' vq qq, Fi N S O vP.ownBlock w w' vP' (fd part cr pp).2.2 vP' (fd part cr pp).2.1 vL' (LL ++ (fd part cr pp).1) vq qq := by
  generalize vP.ownBlock = x0 at *
  have HF := Shut.mk hF
  have HX := Shut.mk hx3
  have HG := Shut.mk hG
  have HB := Shut.mk (And.intro hbp hbl)
  clear hF hx3 hG hbp hbl
  obtain ⟨ad, cp, rfl, hcp⟩ := HF.out.rp.val
  go_enter Tryd.func32, Tryd.ntmps32
  go_wp2
  refine wp_loop_ghost_k (fun g a w' => Fr a 67 ∧ sl a 0 = .pointer (some ⟨S, 0, none⟩) ∧ sl a 2 = .func (.func 33) #[] #[.pointer (some ⟨O, 0, none⟩)] ∧ ∃ vP1 part1 cr1 vL1 LL1 pp1, Fi N S O x0 w w' vP1 cr1 vP1 part1 vL1 (LL ++ LL1) (sl a 1) pp1 ∧ g = pp1.length ∧ fd part cr pp = (LL1 ++ (fd part1 cr1 pp1).1, (fd part1 cr1 pp1).2) ∧ part1.length + pp1.length ≤ part.length + pp.length ∧ LL1.length + pp1.length ≤ pp.length) pp.length ?_ ?_
  · exact ⟨⟨rfl, rfl⟩, rfl, rfl, vP, part, cr, vL, [], pp, by rw [List.append_nil]; exact HF.out, rfl, by simp, Nat.le_refl _, by simp⟩
  rintro g a wr ⟨hf, s0, s2, vP1, part1, cr1, vL1, LL1, pp1, hFi, rfl, hfd, hb1, hb2⟩ J1 K1 hJ1 hK1
  obtain ⟨u, hu, ha⟩ := frame67 a hf
  rw [hu] at s0 s2 hFi
  subst ha
  clear hf hu
  simp only [s0, s2]
  clear s0 s2
  have FD := Shut.mk hfd
  have F1 := Shut.mk hFi
  clear hfd
  cases pp1 with
  | nil =>
    obtain ⟨ad1, cp1, h1, _⟩ := hFi.rp.val
    rw [h1]
    clear hFi
    go_wp2
    go_end0
    refine ⟨rfl, vP1, vL1, u 1, [], ?_⟩
    have := FD.out
    simp only [fd, List.append_nil] at this
    rw [this]
    exact F1.out
  | cons b p2 =>
    obtain ⟨bb, off, cp1, h1, hcp1, hxb, ⟨cur, hblk⟩, hcell⟩ := hFi.rp.at (by simp)
    have c0 : wr.cell? ⟨bb, off, none⟩ = some (.int .u8 (b.toNat : Int)) := hcell 0 (by simp)
    have c1 := hFi.c1
    rw [h1]
    clear hFi hcell
    generalize hn : (b :: p2).length = n at *
    have hn1 : 1 ≤ n := by rw [← hn]; simp
    have HN := Shut.mk hn
    clear hn
    go_upto_region 1 with fail
    rename_i Kr hKr Kb hKb
    have hcut : ∀ a w', Fr a 67 ∧ sl a 0 = .pointer (some ⟨S, 0, none⟩) ∧ sl a 2 = .func (.func 33) #[] #[.pointer (some ⟨O, 0, none⟩)] ∧ w' = wr ∧ (∃ p1, Fi N S O x0 w wr vP1 cr1 vP1 part1 vL1 (LL ++ LL1) (sl a 1) p1 ∧ fd part cr pp = (LL1 ++ (fd part1 false p1).1, (fd part1 false p1).2) ∧ p1.length ≤ n) → Kr a w' := by
      rintro a w' ⟨hf, s0, s2, hw, p1, hFi, hfd, hn2⟩
      subst hw
      clear hKb Kb F1 FD c0 c1 hxb hblk
      obtain ⟨u, hu, ha⟩ := frame67 a hf
      rw [hu] at s0 s2 hFi
      subst ha
      clear hf hu
      simp only [s0, s2]
      clear s0 s2
      have FD := Shut.mk hfd
      clear hfd
      obtain ⟨ad1, cp2, h2, hcp2⟩ := hFi.rp.val
      rw [h2] at hFi
      refine hKr _ _ ?_
      rw [h2]
      clear hKr h2
      have c1 := hFi.c1
      have f1 := hFi.fz 1
      have F2 := hFi.set 1 (.bool false) vP1 false rfl
      have G2 := F2.gl hS3 HX.out HG.out
      obtain ⟨m, hm⟩ := G2.max
      have k36 := indexAny36 _ _ p1 _ F2.rp (by have := HB.out; omega) G2.tab m hm
      clear G2 hm
      have F2' := Shut.mk F2
      have F1 := Shut.mk hFi
      clear F2 hFi
      generalize hwa : w'.setCell ⟨S, 1, none⟩ (.bool false) = wa at F2' k36
      rcases firstE_cases p1 with ⟨hf1, hfd1⟩ | ⟨i, hi, hfi, hfd1⟩
      · rw [hf1] at k36
        have FD1 := Shut.mk hfd1
        clear hfd1 hf1
        go_upto_region 6 with (first
          | (go_at_call 36; refine k36.mono ?_; rintro e wb ⟨rfl, hb⟩; have F3 := Shut.mk (F2'.out.below hb); clear hb k36; have c3 := F3.out.c0; have f3 := F3.out.fz 0)
          | rw [hwa])
        clear F1 hwa F2'
        have hlen : part1.length + p1.length ≤ 140737488355328 := by have := HB.out; omega
        go_wp2_with (at_builtin; refine wpList_app5 rfl _ _ rfl 0 _ _ part1 p1 _ rfl rfl F3.out.own F3.out.rp hlen (Nat.zero_le _) ?_; rintro v1 w1 ho hg hl; obtain ⟨ad9, cp9, rfl, _⟩ := (owns_reads ho none (fun _ _ h => by cases h)).val; have F4 := Shut.mk (F3.out.grow ho hg hl); clear ho hg hl; have c4 := F4.out.c0; have f4 := F4.out.fz 0)
        (try simp only [Exit.inBlock, Exit.then])
        refine bodyPost_ret (results_none rfl _ _ _) rfl ?_
        refine ⟨rfl, ?_⟩
        rw [FD.out, FD1.out]
        simp only [List.append_nil]
        have F5 := F4.out
        rw [List.length_append] at F5
        exact ⟨_, _, _, _, F5.set 0 _ _ false rfl⟩
      · rw [hfi] at k36
        have FD1 := Shut.mk hfd1
        clear hfd1 hfi
        go_upto_region 7 with (first
          | (go_at_call 36; refine k36.mono ?_; rintro e wb ⟨rfl, hb⟩; have F3 := Shut.mk (F2'.out.below hb); clear hb k36; have c3 := F3.out.c0; have f3 := F3.out.fz 0)
          | rw [hwa])
        clear F1 hwa F2'
        have hlen : part1.length + (p1.take i).length ≤ 140737488355328 := by have := HB.out; rw [List.length_take]; omega
        obtain ⟨bb2, off2, cp3, hv3, hcp3, _, _, _⟩ := F3.out.rp.at (fun h => by rw [h] at hi; simp at hi)
        injection hv3 with hv3 _ hv4
        subst hv3 hv4
        have R3 := Shut.mk (F3.out.rp.take i (by omega))
        refine wp_region_any (by kernel_rfl) ?_
        change wpAny _ _ _ _ _ _ _ (World.drew _)
        have F4 := Shut.mk (F3.out.below (below_drew wb))
        have R4 := Shut.mk (below_rb (below_drew wb) R3.out)
        have c4 := F4.out.c0
        clear F3 R3 c3 f3
        generalize wb.drew = wd at F4 R4 c4 ⊢
        refine wpAny_take (i := 0) (v := .pointer (some ⟨S, 0, none⟩)) rfl (by kernel_rfl) (by kernel_rfl) (by kernel_rfl) (fun _ _ _ h => h) (Or.inl ⟨by rfl, fun w => by (go_simp; try rfl)⟩) ?_
        refine wpAny_take (i := 1) (v := .pointer (some ⟨S, 0, none⟩)) rfl (by kernel_rfl) (by kernel_rfl) (by kernel_rfl) (fun _ _ _ h => h) (Or.inl ⟨by rfl, fun w => by (go_simp; try rfl)⟩) ?_
        refine wpAny_take (i := 2) (v := .pointer (some ⟨S, 0, none⟩)) rfl (by kernel_rfl) (by kernel_rfl) (by kernel_rfl) (fun _ _ _ h => h) (Or.inl ⟨by rfl, fun w => by (go_simp; try rfl)⟩) ?_
        refine wpAny_take (i := 4) (v := .slice (some ⟨bb2, off2, none⟩) p1.length cp2) rfl (by kernel_rfl) (by kernel_rfl) (by kernel_rfl) (fun _ _ _ h => h) (Or.inl ⟨by rfl, fun w => by (go_simp; try rfl)⟩) ?_
        refine wpAny_take (i := 5) (v := .int .i64 i) rfl (by kernel_rfl) (by kernel_rfl) (by kernel_rfl) (fun _ _ _ h => h) (Or.inl ⟨by rfl, fun w => by (go_simp; try rfl)⟩) ?_
        refine wpAny_take (i := 6) (v := .slice (some ⟨bb2, off2, none⟩) i cp2) rfl (by kernel_rfl) (by kernel_rfl) (by kernel_rfl) (fun _ _ _ h => h) (Or.inl ⟨by rfl, fun w => by (go_simp; first | done | (intro hh; omega))⟩) ?_
        refine wpAny_ready (rs := [3]) (by kernel_rfl) (by simp) ?_
        refine AllReady.cons rfl (fun K hK => ?_) AllReady.nil
        go_simp
        refine hK _ _ ?_
        clear hK K
        refine wpAny_ready (rs := [7]) (by kernel_rfl) (by simp) ?_
        refine AllReady.cons rfl (fun K hK => ?_) AllReady.nil
        refine step_app5 (by rfl) (.tmp 42) (.tmp 45) (by rfl) 0 vP1 (.slice (some ⟨bb2, off2, none⟩) i cp2) part1 (p1.take i) _ (by simp [Act.eval]) (by simp [Act.eval]) F4.out.own R4.out hlen (Nat.zero_le _) (fun v1 w1 ho hg hl => ?_)
        refine hK _ _ ?_
        clear hK K
        obtain ⟨c, hcd⟩ : ∃ c, p1.getD i 0 = c := ⟨_, rfl⟩
        have CD := Shut.mk hcd
        have clt := c.toNat_lt
        have H13 : Shut ((p1.getD i 0 == 13) = ((c.toNat : Int) == 13)) := ⟨by
          rw [hcd, Bool.eq_iff_iff, beq_iff_eq, beq_iff_eq, ← UInt8.toNat_inj]
          exact ⟨fun h => by rw [h]; rfl, fun h => by simpa using Int.ofNat.inj h⟩⟩
        clear hcd
        have HN2 := Shut.mk (And.intro hn2 (And.intro hb1 hb2))
        have hll : (part1 ++ p1.take i).length ≤ 4194304 := by rw [List.length_append, List.length_take]; have := HB.out; omega
        have hlL : (LL ++ LL1).length ≤ 2000000 := by rw [List.length_append]; have := HB.out; omega
        have hll2 := hll
        generalize hL9 : part1 ++ p1.take i = L9 at ho hll
        have H9 := Shut.mk hL9
        clear hL9 hll2
        rcases ho.2 with ⟨rfl, hz⟩ | ⟨g9, cap9, cur9, rfl, hq1, hq2, hq3, _⟩
        · have hz2 : L9 = [] := List.length_eq_zero_iff.1 hz
          have F5 := Shut.mk (F4.out.grow ho hg hl)
          have k33 := emit33 N w1 O _ none vL1 _ (LL ++ LL1) L9 F5.out.ou (owns_reads ho none (fun _ _ h => by cases h)) F5.out.own_lt F5.out.hN hll hlL
          clear ho hg hl hll hlL hlen
          refine wpAny_take (i := 8) (v := .slice none 0 0) rfl (by kernel_rfl) (by kernel_rfl) (by kernel_rfl) (fun _ _ _ h => h) (Or.inl ⟨by rfl, fun w => by (go_simp; try rfl)⟩) ?_
          refine wpAny_done (by kernel_rfl) ?_ _
          go_upto_region 9 with (go_at_call 33; refine k33.mono ?_; rintro e w6 ⟨rfl, ⟨vL6, hO6⟩, hK6⟩; have F6 := Shut.mk (F5.out.emit hO6 hK6); clear hO6 hK6 k33)
          have c6 := F6.out.c0
          have f6 := F6.out.fz 0
          go_upto_region 10 with fail
          have F7 := Shut.mk ((show Fi N S O x0 w w6 vP1 false (.slice none 0 0) [] vL6 _ _ p1 from by have := F6.out; rw [hz2] at this; exact this).set 0 (.slice none 0 0) (.slice none 0 0) false rfl)
          generalize hw7 : w6.setCell ⟨S, 0, none⟩ (.slice none 0 0) = w7 at F7 ⊢
          clear hw7 F4 R4 c4 F5 F6 c6 f6
          obtain ⟨b9, o9, cp9, hv9, _, _, _, hc9⟩ := F7.out.rp.at (fun h => by rw [h] at hi; simp at hi)
          injection hv9 with hv9 _ hv9c
          injection hv9 with hv9
          injection hv9 with hv9 hv9b
          subst hv9 hv9b hv9c
          have c7 : w7.cell? ⟨bb2, off2 + i, none⟩ = some (.int .u8 (c.toNat : Int)) := by
            rw [hc9 i hi, CD.out]
            rfl
          clear hc9
          have c71 := F7.out.c1
          have f71 := F7.out.fz 1
          have F8 := Shut.mk (F7.out.set 1 (.bool ((c.toNat : Int) == 13)) (.slice none 0 0) ((c.toNat : Int) == 13) rfl)
          have R8 := Shut.mk (F8.out.rp.drop (i + 1) hi)
          have hend : Shut (∀ (a : Act) (w' : World), w' = w7.setCell ⟨S, 1, none⟩ (.bool ((c.toNat : Int) == 13)) → Fr a 67 ∧ sl a 0 = .pointer (some ⟨S, 0, none⟩) ∧ sl a 2 = .func (.func 33) #[] #[.pointer (some ⟨O, 0, none⟩)] ∧ Rb w' (Value.ownBlock (.slice none 0 0)) (sl a 1) (p1.drop (i + 1)) → J1 (p1.length - (i + 1)) a w') := ⟨fun a w' hw' ⟨e1, e2, e3, e4⟩ => hJ1 _ _ _ ⟨e1, e2, e3, (.slice none 0 0), [], ((c.toNat : Int) == 13), vL6, LL1 ++ [L9], p1.drop (i + 1), by
              subst hw'
              rw [← List.append_assoc]
              first | exact F8.out.piece e4 | (rw [hz2]; exact F8.out.piece e4), by rw [List.length_drop], by
              rw [FD.out, FD1.out, H13.out, H9.out]
              simp, by rw [List.length_drop, List.length_nil]; have := HN2.out; omega, by rw [List.length_append, List.length_drop]; have := HN2.out; simp only [List.length_cons, List.length_nil]; omega⟩⟩
          clear hJ1 F7
          have hi64 : i + 1 ≤ 4194304 := by have := HB.out; omega
          go_wp2
          · refine Handed.intro (p1.length - (i + 1)) (by have := HN2.out; omega) (hend.out _ _ rfl ⟨⟨rfl, rfl⟩, rfl, rfl, ?_⟩)
            exact Rb.none (by omega) (List.length_eq_zero_iff.1 (by rw [List.length_drop]; omega))
          · refine Handed.intro (p1.length - (i + 1)) (by have := HN2.out; omega) (hend.out _ _ rfl ⟨⟨rfl, rfl⟩, rfl, rfl, R8.out⟩)
        · clear hq1 hq2
          have F5 := Shut.mk (F4.out.grow ho hg hl)
          have k33 := emit33 N w1 O _ none vL1 _ (LL ++ LL1) L9 F5.out.ou (owns_reads ho none (fun _ _ h => by cases h)) F5.out.own_lt F5.out.hN hll hlL
          clear ho hg hl hll hlL hlen
          refine wpAny_take (i := 8) (v := .slice (some ⟨g9, 0, none⟩) L9.length cap9) rfl (by kernel_rfl) (by kernel_rfl) (by kernel_rfl) (fun _ _ _ h => h) (Or.inl ⟨by rfl, fun w => by (go_simp; try rfl)⟩) ?_
          refine wpAny_done (by kernel_rfl) ?_ _
          go_upto_region 9 with (go_at_call 33; refine k33.mono ?_; rintro e w6 ⟨rfl, ⟨vL6, hO6⟩, hK6⟩; have F6 := Shut.mk (F5.out.emit hO6 hK6); clear hO6 hK6 k33)
          have c6 := F6.out.c0
          have f6 := F6.out.fz 0
          go_upto_region 10 with fail
          have F7 := Shut.mk (F6.out.cut.set 0 (.slice (some ⟨g9, 0, none⟩) 0 cap9) (.slice (some ⟨g9, 0, none⟩) 0 cap9) false rfl)
          generalize hw7 : w6.setCell ⟨S, 0, none⟩ (.slice (some ⟨g9, 0, none⟩) 0 cap9) = w7 at F7 ⊢
          clear hw7 F4 R4 c4 F5 F6 c6 f6
          obtain ⟨b9, o9, cp9, hv9, _, _, _, hc9⟩ := F7.out.rp.at (fun h => by rw [h] at hi; simp at hi)
          injection hv9 with hv9 _ hv9c
          injection hv9 with hv9
          injection hv9 with hv9 hv9b
          subst hv9 hv9b hv9c
          have c7 : w7.cell? ⟨bb2, off2 + i, none⟩ = some (.int .u8 (c.toNat : Int)) := by
            rw [hc9 i hi, CD.out]
            rfl
          clear hc9
          have c71 := F7.out.c1
          have f71 := F7.out.fz 1
          have F8 := Shut.mk (F7.out.set 1 (.bool ((c.toNat : Int) == 13)) (.slice (some ⟨g9, 0, none⟩) 0 cap9) ((c.toNat : Int) == 13) rfl)
          have R8 := Shut.mk (F8.out.rp.drop (i + 1) hi)
          have hend : Shut (∀ (a : Act) (w' : World), w' = w7.setCell ⟨S, 1, none⟩ (.bool ((c.toNat : Int) == 13)) → Fr a 67 ∧ sl a 0 = .pointer (some ⟨S, 0, none⟩) ∧ sl a 2 = .func (.func 33) #[] #[.pointer (some ⟨O, 0, none⟩)] ∧ Rb w' (Value.ownBlock (.slice (some ⟨g9, 0, none⟩) 0 cap9)) (sl a 1) (p1.drop (i + 1)) → J1 (p1.length - (i + 1)) a w') := ⟨fun a w' hw' ⟨e1, e2, e3, e4⟩ => hJ1 _ _ _ ⟨e1, e2, e3, (.slice (some ⟨g9, 0, none⟩) 0 cap9), [], ((c.toNat : Int) == 13), vL6, LL1 ++ [L9], p1.drop (i + 1), by
              subst hw'
              rw [← List.append_assoc]
              first | exact F8.out.piece e4 | (rw [hz2]; exact F8.out.piece e4), by rw [List.length_drop], by
              rw [FD.out, FD1.out, H13.out, H9.out]
              simp, by rw [List.length_drop, List.length_nil]; have := HN2.out; omega, by rw [List.length_append, List.length_drop]; have := HN2.out; simp only [List.length_cons, List.length_nil]; omega⟩⟩
          clear hJ1 F7
          have hi64 : i + 1 ≤ 4194304 := by have := HB.out; omega
          go_wp2
          · refine Handed.intro (p1.length - (i + 1)) (by have := HN2.out; omega) (hend.out _ _ rfl ⟨⟨rfl, rfl⟩, rfl, rfl, ?_⟩)
            exact Rb.none (by omega) (List.length_eq_zero_iff.1 (by rw [List.length_drop]; omega))
          · refine Handed.intro (p1.length - (i + 1)) (by have := HN2.out; omega) (hend.out _ _ rfl ⟨⟨rfl, rfl⟩, rfl, rfl, R8.out⟩)
    clear hKr
    cases hcb : cr1 && b == 10 with
    | false =>
      have hend : Shut (∀ a, Fr a 67 ∧ sl a 0 = .pointer (some ⟨S, 0, none⟩) ∧ sl a 2 = .func (.func 33) #[] #[.pointer (some ⟨O, 0, none⟩)] ∧ sl a 1 = .slice (some ⟨bb, off, none⟩) n cp1 → Kr a wr) := ⟨fun a ⟨e1, e2, e3, e4⟩ => hcut a wr ⟨e1, e2, e3, rfl, b :: p2, by rw [e4, ← h1]; exact F1.out, by rw [FD.out, fd_turn part1 cr1 b p2 (b :: p2) (by rw [hcb]; rfl)], by rw [HN.out]; exact Nat.le_refl _⟩⟩
      clear hcut
      cases cr1 with
      | false =>
        go_wp2
        exact hend.out _ ⟨⟨rfl, rfl⟩, rfl, rfl, rfl⟩
      | true =>
        have hb10 : ((b.toNat : Int) == 10) = false := by
          rw [beq_eq_false_iff_ne]
          intro e
          have : b = 10 := UInt8.toNat_inj.1 (by simpa using Int.ofNat.inj e)
          rw [this] at hcb
          cases hcb
        clear hcb
        go_wp2
        exact hend.out _ ⟨⟨rfl, rfl⟩, rfl, rfl, rfl⟩
    | true =>
      obtain ⟨rfl, hb10⟩ : cr1 = true ∧ b = 10 := by simpa using hcb
      subst hb10
      have hend : Shut (∀ a, Fr a 67 ∧ sl a 0 = .pointer (some ⟨S, 0, none⟩) ∧ sl a 2 = .func (.func 33) #[] #[.pointer (some ⟨O, 0, none⟩)] ∧ Rb wr vP1.ownBlock (sl a 1) p2 → Kr a wr) := ⟨fun a ⟨e1, e2, e3, e4⟩ => hcut a wr ⟨e1, e2, e3, rfl, p2, F1.out.piece e4, by rw [FD.out, fd_turn part1 true 10 p2 p2 rfl], by rw [← HN.out]; simp⟩⟩
      have h5 := F1.out.rp
      rw [h1] at h5
      have R5 := Shut.mk (h5.drop 1 hn1)
      clear hcut hcb h5
      have hb10 : (((10 : UInt8).toNat : Int) == 10) = true := rfl
      go_wp2
      · refine hend.out _ ⟨⟨rfl, rfl⟩, rfl, rfl, ?_⟩
        exact Rb.none (by omega) (List.length_eq_zero_iff.1 (by have := HN.out; simp only [List.length_cons] at this; omega))
      · exact hend.out _ ⟨⟨rfl, rfl⟩, rfl, rfl, R5.out⟩

end Go.Proofs.Qxb6609191aDoor
