/-
  Seat b6609191aD: FnFeedEndSplitsEachStreamAlone, walked.
-/
import Derived.Test.Qxb6609191aDoorNm
namespace Go.Proofs.Qxb6609191aDoor
open Go.RowKit Go.Lib

theorem spl_line : ∀ (n acc : List UInt8) (l : List UInt8), l ∈ spl acc n → l.length ≤ acc.length + n.length
  | [], acc, l, h => by
    rw [spl] at h
    split at h
    · cases h
    · simp at h; subst h; omega
  | b :: n, acc, l, h => by
    rw [spl] at h
    split at h
    · rcases List.mem_cons.1 h with rfl | h
      · omega
      · have := spl_line n [] l h
        simp only [List.length_cons, List.length_nil] at *
        omega
    · have := spl_line n (acc ++ [b]) l h
      simp only [List.length_cons, List.length_append, List.length_nil] at *
      omega

theorem spl_getD {n : List UInt8} {i : Nat} (h : i < (spl [] n).length) : ((spl [] n).getD i []).length ≤ n.length := by
  have : (spl [] n).getD i [] ∈ spl [] n := by
    rw [List.getD_eq_getElem?_getD, List.getElem?_eq_getElem h]
    exact List.getElem_mem h
  simpa using spl_line n [] _ this

theorem ending_len (l : List UInt8) : (ending l).length ≤ 1 := by
  unfold ending
  split <;> simp

/-- The stream's lines, as Feed and End give them. -/
theorem want_one {part pp : List UInt8} {cr : Bool} (h : ∀ b ∈ part, isE b = false) : spl [] (part ++ nm cr pp) = (fd part cr pp).1 ++ ending (fd part cr pp).2.1 := by
  rw [spl_part part [] _ h, List.nil_append, fd_spl]

theorem Ls.keepS {N : Nat} {w w' : World} {S : Nat} {vP : Value} {part : List UInt8} {cr : Bool} {x' : Option Nat} {vL : Value} {LL : List (List UInt8)} (h : Ls N w vP.ownBlock vL LL) (hs : Sp w S vP part cr) (hf : Fk S vP.ownBlock w w') (hn : Nw w.heap.size vP.ownBlock x') : Ls N w' x' vL LL :=
  h.keep hs.ss hs.own5 hf hn

/-- What lies by while the splitter works: the second piece, the two lists that are wanted. -/
structure Kp (w : World) (x : Option Nat) (vq : Value) (qq : List UInt8) (N1 : Nat) (vW1 : Value) (W1 : List (List UInt8)) (N2 : Nat) (vW2 : Value) (W2 : List (List UInt8)) : Prop where
  rq : Rb w x vq qq
  l1 : Ls N1 w x vW1 W1
  l2 : Ls N2 w x vW2 W2

theorem Kp.keepS {w w' : World} {S : Nat} {vP : Value} {part : List UInt8} {cr : Bool} {x' : Option Nat} {vq : Value} {qq : List UInt8} {N1 : Nat} {vW1 : Value} {W1 : List (List UInt8)} {N2 : Nat} {vW2 : Value} {W2 : List (List UInt8)} (h : Kp w vP.ownBlock vq qq N1 vW1 W1 N2 vW2 W2) (hs : Sp w S vP part cr) (hf : Fk S vP.ownBlock w w') (hn : Nw w.heap.size vP.ownBlock x') : Kp w' x' vq qq N1 vW1 W1 N2 vW2 W2 :=
  ⟨h.rq.keep hs.ss hf hn, h.l1.keepS hs hf hn, h.l2.keepS hs hf hn⟩

theorem chain7 {w w1 w2 w3 w4 w5 w6 w7 : World} (b1 : Below w.heap.size w w1) (b2 : Below w1.heap.size w1 w2) (b3 : Below w2.heap.size w2 w3) (b4 : Below w3.heap.size w3 w4) (b5 : Below w4.heap.size w4 w5) (b6 : Below w5.heap.size w5 w6) (b7 : Below w6.heap.size w6 w7) :
    Below w.heap.size w w7 ∧ Below w1.heap.size w1 w7 ∧ Below w4.heap.size w4 w7 ∧ w.heap.size ≤ w6.heap.size ∧ w.heap.size ≤ w1.heap.size := by
  have h1 := b1.size
  have h2 := b2.size
  have h3 := b3.size
  have h4 := b4.size
  have h5 := b5.size
  have h6 := b6.size
  have b47 : Below w4.heap.size w4 w7 := (b5.trans (b6.mono h5)).trans (b7.mono (Nat.le_trans h5 h6))
  have b14 : Below w1.heap.size w1 w4 := (b2.trans (b3.mono h2)).trans (b4.mono (Nat.le_trans h2 h3))
  have b17 : Below w1.heap.size w1 w7 := b14.trans (b47.mono b14.size)
  exact ⟨b1.trans (b17.mono h1), b17, b47, by omega, h1⟩

theorem own_lt2 {w2 : World} {vP : Value} {part : List UInt8} (h : w2.ownsRow 0 5 1 vP part.length (part.map bv)) {n : Nat} (hn : w2.heap.size ≤ n) : ∀ k, vP.ownBlock = some k → k < n := fun k hk => by
  obtain ⟨cur, hc, _⟩ := owns_block h hk
  have := lt_of_heap hc
  omega

theorem listsSame (Na Nb : Nat) (x y : Option Nat) (va vb : Value) (M : List (List UInt8)) (w : World) (hA : Ls Na w x va M) (hB : Ls Nb w y vb M) (h1 : M.length ≤ 2000000) (h2 : ∀ i, i < M.length → (M.getD i []).length ≤ 4194304) :
    Calls Tryd.prog 20 #[va, vb] w fun e w' => e = .returned (.bool true) ∧ Below w.heap.size w w' := by
  have := zzListsEqual20 Na Nb x y va vb M M w hA hB h1 h2
  rw [decide_eq_true (rfl : M = M)] at this
  exact this

theorem listsJoin (Na Nb : Nat) (x y : Option Nat) (va vb : Value) (A B M : List (List UInt8)) (w : World) (hA : Ls Na w x va A) (hB : Ls Nb w y vb B) (hM : A ++ B = M) (hlen : A.length + B.length ≤ 1000000) :
    Calls Tryd.prog 21 #[va, vb] w fun e w' => ∃ v', e = .returned v' ∧ Ls w.heap.size w' none v' M ∧ Below w.heap.size w w' := by
  subst hM
  exact zzAppendLists21 Na Nb x y va vb A B w hA hB hlen

set_option maxHeartbeats 2000000 in
theorem zzBytes30s (v u z : Value) (l m k : List UInt8) (cr : Bool) (w : World) (hr : Rc w v l) (hu : Rc w u m) (hz : Rc w z k) (h1 : l.length ≤ 262144) (h2 : m.length ≤ 262144) (h3 : k.length ≤ 262144) : Calls Tryd.prog 30 #[v, .bool cr, u, z] w fun e w' => e = .returned (.bool true) ∧ w' = w := by
  obtain ⟨ad, cap, rfl, hcap⟩ := hr.val
  obtain ⟨ad2, cap2, rfl, hcap2⟩ := hu.val
  obtain ⟨ad3, cap3, rfl, hcap3⟩ := hz.val
  clear hr hu hz
  go_enter Tryd.func30, Tryd.ntmps30
  go_wp2
  go_ret
  exact ⟨rfl, rfl⟩

set_option maxHeartbeats 4000000 in
set_option maxRecDepth 100000 in
theorem law8_big (v u z : Value) (l m k : List UInt8) (cr : Bool) (w : World) (hr : Rc w v l) (hu : Rc w u m) (hz : Rc w z k) (h1 : l.length ≤ 140737488355328) (h2 : m.length ≤ 140737488355328) (h3 : k.length ≤ 140737488355328) (hb : 262144 < l.length ∨ 262144 < m.length ∨ 262144 < k.length) :
    Calls Tryd.prog 8 #[v, .bool cr, u, z] w fun e w' => e = .returned (.bool true) ∧ Below w.heap.size w w' := by
  have kk := zzBytes30 v u z l m k cr w hr hu hz h1 h2 h3
  obtain ⟨ad, cap, rfl, hcap⟩ := hr.val
  obtain ⟨ad2, cap2, rfl, hcap2⟩ := hu.val
  obtain ⟨ad3, cap3, rfl, hcap3⟩ := hz.val
  clear hr hu hz
  by_cases h4 : 262144 < l.length
  · clear hb
    go_enter Tryd.func8, Tryd.ntmps8
    go_wp2_with (go_at_call 30; refine kk.mono ?_; rintro e w1 ⟨⟨bz, rfl⟩, hw1⟩; rw [hw1]; clear hw1 w1)
    all_goals
      go_ret
      exact ⟨rfl, Below.refl _ _⟩
  · by_cases h5 : 262144 < m.length
    · clear hb
      go_enter Tryd.func8, Tryd.ntmps8
      go_wp2_with (go_at_call 30; refine kk.mono ?_; rintro e w1 ⟨⟨bz, rfl⟩, hw1⟩; rw [hw1]; clear hw1 w1)
      all_goals
        go_ret
        exact ⟨rfl, Below.refl _ _⟩
    · have h6 : 262144 < k.length := by omega
      clear hb
      go_enter Tryd.func8, Tryd.ntmps8
      go_wp2_with (go_at_call 30; refine kk.mono ?_; rintro e w1 ⟨⟨bz, rfl⟩, hw1⟩; rw [hw1]; clear hw1 w1)
      all_goals
        go_ret
        exact ⟨rfl, Below.refl _ _⟩

set_option maxHeartbeats 4000000 in
set_option maxRecDepth 100000 in
theorem law8_off (v u z : Value) (l m k : List UInt8) (cr : Bool) (w : World) (hr : Rc w v l) (hu : Rc w u m) (hz : Rc w z k) (h1 : l.length ≤ 262144) (h2 : m.length ≤ 262144) (h3 : k.length ≤ 262144) (ho : (noE l && (!cr || l.isEmpty)) = false) :
    Calls Tryd.prog 8 #[v, .bool cr, u, z] w fun e w' => e = .returned (.bool true) ∧ Below w.heap.size w w' := by
  have kk := zzBytes30s v u z l m k cr w hr hu hz h1 h2 h3
  have k10 := stateOK10 v l cr w hr (by omega)
  rw [ho] at k10
  obtain ⟨ad, cap, rfl, hcap⟩ := hr.val
  obtain ⟨ad2, cap2, rfl, hcap2⟩ := hu.val
  obtain ⟨ad3, cap3, rfl, hcap3⟩ := hz.val
  clear hr hu hz
  go_enter Tryd.func8, Tryd.ntmps8
  go_wp2_with (first
    | (go_at_call 30; refine kk.mono ?_; rintro e w1 ⟨rfl, hw1⟩; rw [hw1]; clear hw1 w1)
    | (go_at_call 10; refine k10.mono ?_; rintro e w1 ⟨rfl, hw1⟩; rw [hw1]; clear hw1 w1))
  go_ret
  exact ⟨rfl, Below.refl _ _⟩

set_option maxHeartbeats 8000000 in
set_option maxRecDepth 100000 in
theorem law8_on (v u z : Value) (part pp qq : List UInt8) (cr : Bool) (w : World) (hr : Rc w v part) (hu : Rc w u pp) (hz : Rc w z qq) (h1 : part.length ≤ 262144) (h2 : pp.length ≤ 262144) (h3 : qq.length ≤ 262144) (hG : Gl w) (ho : (noE part && (!cr || part.isEmpty)) = true) :
    Calls Tryd.prog 8 #[v, .bool cr, u, z] w fun e w' => e = .returned (.bool true) ∧ Below w.heap.size w w' := by
  have kk := zzBytes30s v u z part pp qq cr w hr hu hz h1 h2 h3
  have k10 := stateOK10 v part cr w hr (by omega)
  rw [ho] at k10
  obtain ⟨ad, cap, rfl, hcap⟩ := hr.val
  have HR := Shut.mk hr
  have HU := Shut.mk hu
  have HZ := Shut.mk hz
  have HG := Shut.mk hG
  have HK := Shut.mk (ok_facts ho)
  have HB := Shut.mk (And.intro h1 (And.intro h2 h3))
  have hu2 := hu
  obtain ⟨ad2, cap2, rfl, hcap2, hnil⟩ := hu2
  have hz2 := hz
  obtain ⟨ad3, cap3, rfl, hcap3, hnil3⟩ := hz2
  clear hr hu hz hG ho
  have HNIL3 := Shut.mk hnil3
  clear hnil3
  go_enter Tryd.func8, Tryd.ntmps8
  go_upto_region 11 with (first
    | (go_at_call 30; refine kk.mono ?_; rintro e w1 ⟨rfl, hw1⟩; rw [hw1]; clear hw1 w1)
    | (go_at_call 10; refine k10.mono ?_; rintro e w1 ⟨rfl, hw1⟩; rw [hw1]; clear hw1 w1))
  rename_i Kr hKr Kb hKb
  have hcut : ∀ a w', Fr a 90 ∧ sl a 0 = .slice ad part.length cap ∧ sl a 1 = .bool cr ∧ sl a 3 = .slice ad3 qq.length cap3 ∧ Below w.heap.size w w' ∧ Rb w' none (sl a 2) pp → Kr a w' := by
    rintro a w0 ⟨hf, s0, s1, s3, hB0, hRp⟩
    clear hKb Kb hnil
    obtain ⟨u, hu, ha⟩ := frame90 a hf
    rw [hu] at s0 s1 s3 hRp
    subst ha
    clear hf hu
    simp only [s0, s1, s3]
    clear s0 s1 s3
    have RP0 := Shut.mk hRp
    clear hRp
    refine hKr _ _ ?_
    clear hKr kk k10
    go_upto_region 15 with fail
    rename_i Kr2 hKr2 Kb2 hKb2
    have hcut2 : ∀ a w', Fr a 90 ∧ sl a 0 = .slice ad part.length cap ∧ sl a 1 = .bool cr ∧ Below w.heap.size w w' ∧ Rb w' none (sl a 2) pp ∧ Rb w' none (sl a 3) qq → Kr2 a w' := by
      rintro a w1 ⟨hf, s0, s1, hB, hRp, hRq⟩
      clear hKb2 Kb2 RP0 hB0 h1 h2 h3
      obtain ⟨u, hu, ha⟩ := frame90 a hf
      rw [hu] at s0 s1 hRp hRq
      subst ha
      clear hf hu
      simp only [s0, s1]
      clear s0 s1
      have RP := Shut.mk hRp
      have RQ := Shut.mk hRq
      obtain ⟨vp, hvp⟩ : ∃ vp, u 2 = vp := ⟨_, rfl⟩
      obtain ⟨vq, hvq⟩ : ∃ vq, u 3 = vq := ⟨_, rfl⟩
      rw [hvp] at RP
      rw [hvq] at RQ
      have HB1 := Shut.mk hB
      have k11 := zzClone11 _ part w1 (Rc.below hB HR.out) (by have := HB.out; omega)
      have hN1 : Shut ((part ++ nm cr pp).length ≤ 1000000) := ⟨by have := nm_len pp cr; have := HB.out; rw [List.length_append]; omega⟩
      have hN2 : Shut (([] ++ nm false qq).length ≤ 1000000) := ⟨by have := nm_len qq false; have := HB.out; rw [List.nil_append]; omega⟩
      obtain ⟨M1, hM1⟩ : ∃ M, spl [] (part ++ nm cr pp) = M := ⟨_, rfl⟩
      obtain ⟨M2, hM2⟩ : ∃ M, spl [] ([] ++ nm false qq) = M := ⟨_, rfl⟩
      have W1 : Shut ((fd part cr pp).1 ++ ending (fd part cr pp).2.1 = M1) := ⟨by rw [← hM1]; exact (want_one HK.out.1).symm⟩
      have W2 : Shut ((fd [] false qq).1 ++ ending (fd [] false qq).2.1 = M2) := ⟨by rw [← hM2]; exact (want_one (fun b hb => by cases hb)).symm⟩
      have B1 : Shut (∀ i, i < M1.length → (M1.getD i []).length ≤ 4194304) := ⟨fun i hi => by rw [← hM1] at hi ⊢; have h9 := spl_getD hi; have h8 := hN1.out; omega⟩
      have B2 : Shut (∀ i, i < M2.length → (M2.getD i []).length ≤ 4194304) := ⟨fun i hi => by rw [← hM2] at hi ⊢; have h9 := spl_getD hi; have h8 := hN2.out; omega⟩
      have HM1 := Shut.mk hM1
      have HM2 := Shut.mk hM2
      clear hM1 hM2
      have C1 : Shut ((fd part cr pp).1.length + (ending (fd part cr pp).2.1).length ≤ 1000000) := ⟨by have := fd_count pp part cr; have := ending_len (fd part cr pp).2.1; have := HB.out; omega⟩
      have C2 : Shut ((fd [] false qq).1.length + (ending (fd [] false qq).2.1).length ≤ 1000000) := ⟨by have := fd_count qq [] false; have := ending_len (fd [] false qq).2.1; have := HB.out; omega⟩
      have ML1 : Shut (M1.length ≤ 2000000) := ⟨by rw [← W1.out, List.length_append]; have := C1.out; omega⟩
      have ML2 : Shut (M2.length ≤ 2000000) := ⟨by rw [← W2.out, List.length_append]; have := C2.out; omega⟩
      have T1 : Shut ((fd part cr pp).2.1.length ≤ 4194304) := ⟨by have := fd_left pp part cr; have := HB.out; omega⟩
      have T2 : Shut ((fd [] false qq).2.1.length ≤ 4194304) := ⟨by have := fd_left qq [] false; have := HB.out; simp only [List.length_nil] at *; omega⟩
      refine hKr2 _ _ ?_
      rw [hvp, hvq]
      clear hKr2 hRp hRq hB hvp hvq
      go_upto_region 20 with (first
        | (go_at_call 11; refine k11.mono ?_; rintro e w2 ⟨vP, rfl, ho2, hn2, hb2⟩; have S2 := Shut.mk (And.intro ho2 (And.intro hn2 hb2)); clear ho2 hn2 hb2 k11))
      go_upto_region 21 with (first
        | (go_at_call 12; refine (zzNormalize12 none none vP vp part pp cr w2 (owns_reads S2.out.1 none (fun _ _ h => by cases h)) (below_rb S2.out.2.2 RP.out) (by have := HB.out; omega)).mono ?_; rintro e w3 ⟨vn1, rfl, ho3, hb3⟩; have S3 := Shut.mk (And.intro ho3 hb3); clear ho3 hb3)
        | (go_at_call 31; refine (zzSplitLines31 none vP.ownBlock vn1 (part ++ nm cr pp) w3 (owns_reads S3.out.1 none (fun _ _ h => by cases h)) hN1.out (own_lt2 S2.out.1 S3.out.2.size)).mono ?_; rintro e w4 ⟨vW1, rfl, hl4, hb4⟩; rw [HM1.out] at hl4; have S4 := Shut.mk (And.intro hl4 hb4); clear hl4 hb4))
      go_upto_region 22 with (first
        | (go_at_call 12; refine (zzNormalize12 none none (.slice none 0 0) vq [] qq false w4 (Rb.nil _ _) (below_rb S4.out.2 (below_rb S3.out.2 (below_rb S2.out.2.2 RQ.out))) (by have := HB.out; simp only [List.length_nil]; omega)).mono ?_; rintro e w5 ⟨vn2, rfl, ho5, hb5⟩; have S5 := Shut.mk (And.intro ho5 hb5); clear ho5 hb5)
        | (go_at_call 31; refine (zzSplitLines31 none vP.ownBlock vn2 ([] ++ nm false qq) w5 (owns_reads S5.out.1 none (fun _ _ h => by cases h)) hN2.out (own_lt2 S2.out.1 (Nat.le_trans S3.out.2.size (Nat.le_trans S4.out.2.size S5.out.2.size)))).mono ?_; rintro e w6 ⟨vW2, rfl, hl6, hb6⟩; rw [HM2.out] at hl6; have S6 := Shut.mk (And.intro hl6 hb6); clear hl6 hb6))
      go_upto_region 23 with (first
        | (go_at_call 13; refine (zzNew13 w6 vP part cr (below_own S6.out.2 (below_own S5.out.2 (below_own S4.out.2 (below_own S3.out.2 S2.out.1))))).mono ?_; rintro e w7 ⟨rfl, hs7, hb7⟩; have S7 := Shut.mk (And.intro hs7 (chain7 HB1.out S2.out.2.2 S3.out.2 S4.out.2 S5.out.2 S6.out.2 hb7)); have K7 : Shut (Kp w7 vP.ownBlock vq qq w3.heap.size vW1 M1 w5.heap.size vW2 M2) := ⟨⟨rb_ready RQ.out S2.out.2.1 S7.out.2.2.1, S4.out.1.below S7.out.2.2.2.1 (fun _ h => h), S6.out.1.below hb7 (fun _ h => h)⟩⟩; clear hs7 hb7))
      go_upto_region 24 with (first
        | (go_at_call 14; refine (feedW w _ w7 vP part cr vp pp HG.out S7.out.2.1 S7.out.2.2.2.2.1 (S2.out.2.1.ge S7.out.2.2.2.2.2 (fun _ h => by cases h)) S7.out.1 (rb_ready RP.out S2.out.2.1 S7.out.2.2.1) (by have := HB.out; omega) (by have := HB.out; omega)).mono ?_; rintro e w8 ⟨f1, vP8, rfl, hs8, hl8, hf8, hn8, hb8, hx8⟩; have K8 := Shut.mk (K7.out.keepS S7.out.1 hf8 hn8); have S8 := Shut.mk (And.intro hs8 (And.intro hl8 (And.intro hb8 hx8))); clear hs8 hl8 hf8 hn8 hb8 hx8))
      go_upto_region 25 with (first
        | (go_at_call 28; refine (endW w _ w8 vP8 _ _ S8.out.2.2.1 S7.out.2.2.2.2.1 S8.out.2.2.2 S8.out.1 T1.out).mono ?_; rintro e w9 ⟨e1, vP9, rfl, hs9, hl9, hf9, hn9, hb9, hx9⟩; have K9 := Shut.mk (K8.out.keepS S8.out.1 hf9 hn9); have F9 := Shut.mk (S8.out.2.1.keepS S8.out.1 hf9 hn9); have S9 := Shut.mk (And.intro hs9 (And.intro hl9 (And.intro hb9 hx9))); clear hs9 hl9 hf9 hn9 hb9 hx9))
      go_upto_region 26 with (first
        | (go_at_call 14; refine (feedW w _ w9 vP9 [] false vq qq HG.out S9.out.2.2.1 S7.out.2.2.2.2.1 S9.out.2.2.2 S9.out.1 K9.out.rq (by have := HB.out; simp only [List.length_nil]; omega) (by have := HB.out; omega)).mono ?_; rintro e w10 ⟨f2, vP10, rfl, hs10, hl10, hf10, hn10, hb10, hx10⟩; have K10 := Shut.mk (K9.out.keepS S9.out.1 hf10 hn10); have F10 := Shut.mk (And.intro (F9.out.keepS S9.out.1 hf10 hn10) (S9.out.2.1.keepS S9.out.1 hf10 hn10)); have S10 := Shut.mk (And.intro hs10 (And.intro hl10 (And.intro hb10 hx10))); clear hs10 hl10 hf10 hn10 hb10 hx10))
      go_upto_region 27 with (first
        | (go_at_call 28; refine (endW w _ w10 vP10 _ _ S10.out.2.2.1 S7.out.2.2.2.2.1 S10.out.2.2.2 S10.out.1 T2.out).mono ?_; rintro e w11 ⟨e2, vP11, rfl, hs11, hl11, hf11, hn11, hb11, hx11⟩; have K11 := Shut.mk (K10.out.keepS S10.out.1 hf11 hn11); have F11 := Shut.mk (And.intro (F10.out.1.keepS S10.out.1 hf11 hn11) (And.intro (F10.out.2.keepS S10.out.1 hf11 hn11) (And.intro (S10.out.2.1.keepS S10.out.1 hf11 hn11) hl11))); have S11 := Shut.mk hb11; clear hs11 hl11 hf11 hn11 hb11 hx11))
      go_wp2_with fail
      refine (listsJoin _ _ _ _ f1 e1 _ _ M1 w11 F11.out.1 F11.out.2.1 W1.out C1.out).mono ?_
      rintro e w12 ⟨g1, rfl, hl12, hb12⟩
      have S12 := Shut.mk (And.intro hl12 hb12)
      clear hl12 hb12
      go_wp2_with fail
      refine (listsSame _ _ _ _ g1 vW1 M1 w12 S12.out.1 (K11.out.l1.below S12.out.2 (fun _ h => h)) ML1.out B1.out).mono ?_
      rintro e w13 ⟨rfl, hb13⟩
      have S13 := Shut.mk hb13
      clear hb13
      go_wp2_with fail
      refine (listsJoin _ _ _ _ f2 e2 _ _ M2 w13 ((F11.out.2.2.1.below S12.out.2 (fun _ h => h)).below S13.out (fun _ h => h)) ((F11.out.2.2.2.below S12.out.2 (fun _ h => h)).below S13.out (fun _ h => h)) W2.out C2.out).mono ?_
      rintro e w14 ⟨g2, rfl, hl14, hb14⟩
      have S14 := Shut.mk (And.intro hl14 hb14)
      clear hl14 hb14
      go_wp2_with fail
      refine (listsSame _ _ _ _ g2 vW2 M2 w14 S14.out.1 (((K11.out.l2.below S12.out.2 (fun _ h => h)).below S13.out (fun _ h => h)).below S14.out.2 (fun _ h => h)) ML2.out B2.out).mono ?_
      rintro e w15 ⟨rfl, hb15⟩
      have S15 := Shut.mk hb15
      clear hb15
      go_wp2
      go_ret
      refine ⟨rfl, ?_⟩
      have c1 := S11.out.trans (S12.out.2.mono S11.out.size)
      have c2 := c1.trans (S13.out.mono c1.size)
      have c3 := c2.trans (S14.out.2.mono c2.size)
      exact c3.trans (S15.out.mono c3.size)
    clear hKr2
    have CUT := Shut.mk hcut2
    clear hcut2
    have HB0 := Shut.mk hB0
    clear hB0
    rcases HNIL3.out with ⟨rfl, h0, rfl⟩ | ⟨a3, rfl, _⟩
    · have q := neq_nil w0
      subst h0
      go_wp2
      exact CUT.out _ _ ⟨⟨rfl, rfl⟩, rfl, rfl, HB0.out, RP0.out, Rb.nil _ _⟩
    · obtain ⟨n, hn⟩ : ∃ n, qq.length = n := ⟨_, rfl⟩
      have hn4 : n ≤ 4194304 := by omega
      rw [hn] at HZ hcap3
      rw [hn]
      have q := neq_some a3 n cap3 w0
      clear h1 h2 h3
      go_wp2_with (first
        | (at_make; refine wpList_mk5 rfl _ _ rfl n rfl rfl hn4 ?_; rintro w1 ⟨cur, hc1, hc2⟩ hb1 hs1; have HM := Shut.mk (And.intro hc1 (And.intro hc2 hb1)); clear hc1 hc2 hb1)
        | (refine wpList_cp5 rfl _ _ rfl _ n _ qq _ rfl rfl ((Rc.below HB0.out HZ.out).below HM.out.2.2) hn hn4 HM.out.1 HM.out.2.1 ?_; rintro w2 u2 ho2 hb2; have HO := Shut.mk (And.intro ho2 hb2); clear ho2 hb2))
      have b02 := HM.out.2.2.trans HO.out.2
      refine CUT.out _ _ ⟨⟨rfl, rfl⟩, rfl, rfl, HB0.out.trans (b02.mono HB0.out.size), below_rb b02 RP0.out, ?_⟩
      exact owns_reads HO.out.1 none (fun _ _ h => by cases h)
  clear hKr
  have CUT := Shut.mk hcut
  clear hcut kk k10
  rcases hnil with ⟨rfl, h0, rfl⟩ | ⟨a2, rfl, _⟩
  · have q := neq_nil w
    subst h0
    go_wp2
    exact CUT.out _ _ ⟨⟨rfl, rfl⟩, rfl, rfl, rfl, Below.refl _ _, Rb.nil _ _⟩
  · obtain ⟨n, hn⟩ : ∃ n, pp.length = n := ⟨_, rfl⟩
    have hn4 : n ≤ 4194304 := by omega
    rw [hn] at HU hcap2
    rw [hn]
    have q := neq_some a2 n cap2 w
    clear h1 h2 h3
    go_wp2_with (first
      | (at_make; refine wpList_mk5 rfl _ _ rfl n rfl rfl hn4 ?_; rintro w1 ⟨cur, hc1, hc2⟩ hb1 hs1; have HM := Shut.mk (And.intro hc1 (And.intro hc2 hb1)); clear hc1 hc2 hb1)
      | (refine wpList_cp5 rfl _ _ rfl _ n _ pp _ rfl rfl (HU.out.below HM.out.2.2) hn hn4 HM.out.1 HM.out.2.1 ?_; rintro w2 u2 ho2 hb2; have HO := Shut.mk (And.intro ho2 hb2); clear ho2 hb2))
    refine CUT.out _ _ ⟨⟨rfl, rfl⟩, rfl, rfl, rfl, HM.out.2.2.trans HO.out.2, ?_⟩
    exact owns_reads HO.out.1 none (fun _ _ h => by cases h)

theorem law8 (v u z : Value) (l m k : List UInt8) (cr : Bool) (w : World) (hr : Rc w v l) (hu : Rc w u m) (hz : Rc w z k) (h1 : l.length ≤ 140737488355328) (h2 : m.length ≤ 140737488355328) (h3 : k.length ≤ 140737488355328) (hG : Gl w) :
    Calls Tryd.prog 8 #[v, .bool cr, u, z] w fun e w' => e = .returned (.bool true) ∧ Below w.heap.size w w' := by
  by_cases hb : 262144 < l.length ∨ 262144 < m.length ∨ 262144 < k.length
  · exact law8_big v u z l m k cr w hr hu hz h1 h2 h3 hb
  · cases ho : (noE l && (!cr || l.isEmpty)) with
    | false => exact law8_off v u z l m k cr w hr hu hz (by omega) (by omega) (by omega) ho
    | true => exact law8_on v u z l m k cr w hr hu hz (by omega) (by omega) (by omega) hG ho

end Go.Proofs.Qxb6609191aDoor
