import Derived.Test.Qxb6606138aDoorW6
import Derived.Test.Qxb6606138aDoorW9
import Derived.Test.Qxb6606138aDoorSorts
import Derived.Deep.OwnRows
import Derived.RegionTactic
namespace Go.Proofs.Qxb6606138aDoor
open Go.RowKit

theorem made_int (k : IntKind) (n : Nat) : madeCells #[Value.int k 0] n = ((List.replicate n (0 : Int)).map (Value.int k)).toArray := by
  apply Array.ext'
  simp only [madeCells, Array.toList_map, Array.toList_range, List.map_replicate]
  refine List.ext_getElem (by simp) (fun i h1 h2 => ?_)
  simp [Nat.mod_one]

/-- The struct with its two rows, as the statement that makes them leaves it. -/
theorem st_made (w w1 : World) (nF nT N : Nat) (fv tv : Value) (hown : w1.ownsRow 0 38 1 (.slice (some ⟨w.heap.size, 0, none⟩) 0 (nF + nT)) 0 []) (hg : w.grownBy w1 none) (hlt : w.heap.size < w1.heap.size) (q : Nat) (F B : Nat)
    (hFB : (F = w1.heap.size + 1 ∧ B = w1.heap.size + 2) ∨ (B = w1.heap.size + 1 ∧ F = w1.heap.size + 2)) :
    St w ((((w1.alloc (.cells #[fv, tv, .slice (some ⟨w.heap.size, 0, none⟩) 0 (nF + nT), opv F N N, opv B N N] 42)).alloc (.cells (madeCells #[Value.int .i64 0] N) 3)).alloc (.cells (madeCells #[Value.int .i64 0] N) 3)).drewN q) w1.heap.size w.heap.size F B (nF + nT) N fv tv [] (List.replicate N 0) (List.replicate N 0) := by
  have e1 : (w1.alloc (.cells #[fv, tv, .slice (some ⟨w.heap.size, 0, none⟩) 0 (nF + nT), opv F N N, opv B N N] 42)).heap.size = w1.heap.size + 1 := by simp
  rw [made_int]
  generalize hW : w1.alloc (.cells #[fv, tv, .slice (some ⟨w.heap.size, 0, none⟩) 0 (nF + nT), opv F N N, opv B N N] 42) = W at *
  have bS : Blk W w1.heap.size 42 [fv, tv, .slice (some ⟨w.heap.size, 0, none⟩) 0 (nF + nT), opv F N N, opv B N N] := by rw [← hW]; exact Blk.new _ _ _
  have b1 : Ib (W.alloc (.cells ((List.replicate N (0 : Int)).map (Value.int .i64)).toArray 3)) (w1.heap.size + 1) 3 .i64 (List.replicate N 0) := by rw [← e1]; exact Blk.new _ _ _
  have e2 : (W.alloc (.cells ((List.replicate N (0 : Int)).map (Value.int .i64)).toArray 3)).heap.size = w1.heap.size + 2 := by simp [e1]
  have b2 : Ib ((W.alloc (.cells ((List.replicate N (0 : Int)).map (Value.int .i64)).toArray 3)).alloc (.cells ((List.replicate N (0 : Int)).map (Value.int .i64)).toArray 3)) (w1.heap.size + 2) 3 .i64 (List.replicate N 0) := by rw [← e2]; exact Blk.new _ _ _
  have b1' := b1.alloc (.cells ((List.replicate N (0 : Int)).map (Value.int .i64)).toArray 3)
  have hop : W.ownsRow 0 38 1 (.slice (some ⟨w.heap.size, 0, none⟩) 0 (nF + nT)) 0 [] := by rw [← hW]; exact hown.alloc _
  have hbl : Below w.heap.size w W := by rw [← hW]; exact ((Below.refl _ _).grown hg (Nat.le_refl _) (fun k h => by cases h)).alloc (by omega) _
  refine St.drewN ?_ q
  rcases hFB with ⟨rfl, rfl⟩ | ⟨rfl, rfl⟩
  · exact ⟨(bS.alloc _).alloc _, (hop.alloc _).alloc _, b1', b2, by simp, by simp, by omega, by omega, by omega, by omega, by omega, by omega, by omega, by omega, by omega, by omega, (hbl.alloc (by omega) _).alloc (by omega) _⟩
  · exact ⟨(bS.alloc _).alloc _, (hop.alloc _).alloc _, b2, b1', by simp, by simp, by omega, by omega, by omega, by omega, by omega, by omega, by omega, by omega, by omega, by omega, (hbl.alloc (by omega) _).alloc (by omega) _⟩

/-- What script's memory holds while it sorts runs: the struct at S, the ops at O. -/
structure Sc (w0 w : World) (S O cap n : Nat) (fv tv r3 r4 : Value) (l : List Int) (sp : List Value) : Prop where
  st : Blk w S 42 [fv, tv, .slice (some ⟨O, 0, none⟩) n cap, r3, r4]
  op : Blk w O 38 (opcells l sp)
  so : S ≠ O
  s0 : w0.heap.size ≤ S
  o0 : w0.heap.size ≤ O
  below : Below w0.heap.size w0 w

theorem Sc.setO {w0 w : World} {S O cap n : Nat} {fv tv r3 r4 : Value} {l : List Int} {sp : List Value} (h : Sc w0 w S O cap n fv tv r3 r4 l sp) (i : Nat) (hi : i < l.length) (v : Int) : Sc w0 (w.setCell ⟨O, i, none⟩ (.int .u8 v)) S O cap n fv tv r3 r4 (l.set i v) sp :=
  { h with st := h.st.set_ne _ (fun e => h.so e.symm), op := by rw [← opcells_set _ _ _ hi]; exact h.op.set i _, below := h.below.setCell h.o0 _ }

theorem Sc.cell {w0 w : World} {S O cap n : Nat} {fv tv r3 r4 : Value} {l : List Int} {sp : List Value} (h : Sc w0 w S O cap n fv tv r3 r4 l sp) (i : Nat) (hi : i < l.length) : w.cell? ⟨O, i, none⟩ = some (.int .u8 (l.getD i 0)) := h.op.cell (opcells_get l sp i hi)

theorem ops_block {w0 w : World} {S O F B cap N : Nat} {fv tv : Value} {l fw bw : List Int} (h : St w0 w S O F B cap N fv tv l fw bw) : ∃ sp, Blk w O 38 (opcells l sp) := by
  obtain ⟨_, h2⟩ := h.ops
  rcases h2 with ⟨h2, _⟩ | ⟨g, cp, cur, hv, _, hh, _, _, _, ht⟩
  · unfold opv at h2; cases h2
  · have hO : g = O := by unfold opv at hv; simp at hv; exact hv.1.symm
    subst hO
    refine ⟨cur.toList.drop l.length, ?_⟩
    unfold Blk
    rw [hh]
    have : cur.toList = opcells l (cur.toList.drop l.length) := by
      unfold opcells
      rw [← List.take_append_drop l.length cur.toList]
      congr 1
      · rw [Nat.mul_one] at ht; rw [ht]; rfl
      · simp
    rw [← this]

/-- Where a run of changes ends, and how many of it remove. -/
structure RunTo (l : List Int) (n i : Nat) (v8 v10 : Value) : Prop where
  out : ∃ e r : Nat, v8 = .int .i64 e ∧ v10 = .int .i64 r ∧ i < e ∧ e ≤ n ∧ (∀ j, i ≤ j → j < e → l.getD j 0 ≠ 32) ∧ (e = n ∨ l.getD e 0 = 32) ∧ r = My.rems (My.runOf l i e)

set_option maxRecDepth 100000 in
set_option maxHeartbeats 4000000 in
theorem script_any (aF aT : Option Addr) (nF nT cF cT : Nat) (X Y : List ByteArray) (hX : X.length = nF) (hY : Y.length = nT) (hnF : nF ≤ 4096) (hnT : nT ≤ 4096)
    (hsX : ∀ i, i < nF → (X.getD i ByteArray.empty).size ≤ 140737488355328) (hsY : ∀ i, i < nT → (Y.getD i ByteArray.empty).size ≤ 140737488355328)
    (w : World) (hrF : Rd w aF nF (sv X)) (hrT : Rd w aT nT (sv Y)) (c : Nat) (hc : My.Lc (Eqs X Y) nF nT c) (hdist : nF + nT ≤ 2048 + 2 * c) :
    Calls Tryd.prog 24 #[.slice aF nF cF, .slice aT nT cT] w fun e w' => (∃ (O n cap : Nat) (l : List Int), e = .returned (.slice (some ⟨O, 0, none⟩) n cap) ∧ Rd w' (some ⟨O, 0, none⟩) n (bv l) ∧ l.length = n ∧ n ≤ 8192 ∧
      My.Vs (Eqs X Y) l 0 0 nF nT ∧ Canon false l ∧ My.kept l = c) ∧ Below w.heap.size w w' := by
  obtain ⟨i0, hi, hz0, hz1, hz2⟩ := info_parts Tryd.info38
  obtain ⟨N, HN⟩ : ∃ N, Hid (N = 2 * ((nF + nT + 1) / 2) + 3) := ⟨_, rfl⟩
  have hN2 : N ≤ 8200 := by have := HN.out; omega
  go_enter Tryd.func24, Tryd.ntmps24
  go_wp2_with (at_make; refine wpList_make_own _ rfl _ _ 29 rfl 0 38 i0 (.int .u8 0) 1 Tryd.underlying29 hi hz0 hz1 _ _ _ (nF + nT) rfl rfl (by omega) (by rw [hz2]; omega) (by unfold maxLen; omega) (Nat.zero_le _) ?_)
  intro w1 hown hg
  go_upto_region 4 with fail
  rename_i Ka hKa
  rw [show 2 * (((nF : Int) + nT + 1) / 2) + 3 = (N : Int) by have := HN.out; omega]
  have hcut : ∀ a w', Fr a 120 ∧ sl a 0 = .slice aF nF cF ∧ sl a 1 = .slice aT nT cT ∧ (∃ S O F B : Nat, sl a 6 = .pointer (some ⟨S, 0, none⟩) ∧ St w w' S O F B (nF + nT) N (.slice aF nF cF) (.slice aT nT cT) [] (List.replicate N 0) (List.replicate N 0)) → Ka a w' := by
    rintro a wr ⟨hf, h0, h1, S, O, F, B, h6, hst⟩
    obtain ⟨u, hu, ha⟩ := frame120 a hf.df hf.sz
    rw [hu] at h0 h1 h6
    subst ha
    clear hf hu
    simp only [h0, h1, h6]
    clear h0 h1 h6
    obtain ⟨ld, hld1, hld2⟩ := My.Lc_dist hc
    have hcmp := compare_any w S O F B (nF + nT) N aF aT nF nT cF cT X Y hX hY hnF hnT (by omega) hrF hrT (nF + nT) 0 nF 0 nT [] _ _ wr (Nat.zero_le _) (Nat.le_refl _) (Nat.zero_le _) (Nat.le_refl _) (by omega) (by simp) (by have := HN.out; omega) ⟨ld, hld1, by omega⟩ hst
    rw [show ((0 : Nat) : Int) = 0 from rfl] at hcmp
    refine hKa _ _ ?_
    clear hKa hst hi hz0 hz1 hz2 hown hg
    have Hcmp := hide hcmp
    clear hcmp hld1 hld2
    go_wp2_with fail
    refine Hcmp.out.mono ?_
    rintro e w2 ⟨rfl, l, fw, bw, hbest, hst⟩
    clear Hcmp
    rw [List.nil_append] at hst
    obtain ⟨n, hn⟩ : ∃ n, n = l.length := ⟨_, rfl⟩
    have hlen := My.Vs_length hbest.1
    obtain ⟨sp, hO⟩ := ops_block hst
    have hst0 := hst.struct'
    rw [← hn] at hst0
    have C0 : Hid (My.Cn (Eqs X Y) n nF nT c l 0) := ⟨hn.symm, Nat.zero_le _, hbest.1, My.Best_kept hbest hc, trivial, fun _ _ => Or.inl rfl⟩
    have Z0 : Hid (Sc w w2 S O (nF + nT) n (.slice aF nF cF) (.slice aT nT cT) (opv F N N) (opv B N N) l sp) := ⟨hst0, hO, hst.so, hst.s0, hst.o0, hst.below⟩
    generalize opv F N N = r3 at Z0
    generalize opv B N N = r4 at Z0
    have hn8 : n ≤ 8192 := by omega
    clear hst hst0 hO hbest hlen hn hc hdist
    go_wp2_with fail
    refine wp_loop_ghost_k (fun g a w' => Fr a 120 ∧ sl a 6 = .pointer (some ⟨S, 0, none⟩) ∧ (∃ (i : Nat) (l : List Int), sl a 8 = .int .i64 i ∧ g = n - i ∧ My.Cn (Eqs X Y) n nF nT c l i ∧ Sc w w' S O (nF + nT) n (.slice aF nF cF) (.slice aT nT cT) r3 r4 l sp)) n ?_ ?_
    · exact ⟨⟨rfl, rfl⟩, rfl, 0, l, rfl, rfl, C0.out, Z0.out⟩
    · clear C0 Z0 u
      rintro g a wr ⟨hf, h6, i, l, h8, rfl, hcn, hsc⟩ J1 K1 hJ1 hK1
      obtain ⟨u, hu, ha⟩ := frame120 a hf.df hf.sz
      rw [hu] at h6 h8
      subst ha
      clear hf hu
      simp only [h6, h8]
      clear h6 h8
      have hin := hcn.le
      have hln := hcn.len
      have s2 : wr.cell? ⟨S, 2, none⟩ = some (.slice (some ⟨O, 0, none⟩) n (nF + nT)) := hsc.st.cell rfl
      have Z := hide hsc
      have Cn := hide hcn
      by_cases hi : i < n
      · have c0 := hsc.cell i (by omega)
        by_cases e32 : l.getD i 0 = 32
        · have Hn := hide (hcn.keep hi e32)
          rw [e32] at c0
          clear hcn hsc e32
          go_wp2
          refine Handed.intro (n - (i + 1)) (by omega) (hJ1 _ _ _ ?_)
          exact ⟨⟨rfl, rfl⟩, rfl, i + 1, l, by go_num, rfl, Hn.out, Z.out⟩
        · have b32 : (l.getD i 0 == 32) = false := by simpa using e32
          have H32 := hide e32
          clear hcn hsc e32
          generalize l.getD i 0 = o at c0 b32
          go_wp2
          rename_i Kq hKq
          have hend2 : ∀ a w', Fr a 120 ∧ sl a 6 = .pointer (some ⟨S, 0, none⟩) ∧ sl a 9 = .int .i64 i ∧ RunTo l n i (sl a 8) (sl a 10) ∧ Sc w w' S O (nF + nT) n (.slice aF nF cF) (.slice aT nT cT) r3 r4 l sp → Kq a w' := by
            clear Z u c0 s2
            rintro a wr ⟨hf, h6, h9, ⟨⟨e, r, h8, h10, he1, he2, hrun, hend, hr⟩⟩, hsc⟩
            obtain ⟨u, hu, ha⟩ := frame120 a hf.df hf.sz
            rw [hu] at h6 h8 h9 h10
            subst ha
            clear hf hu
            simp only [h6, h8, h9, h10]
            clear h6 h8 h9 h10
            have hrb : r ≤ n := by have := My.rems_le (My.runOf l i e); have := My.runOf_length (l := l) (i := i) (e := e) (by omega); omega
            have Hr := hide hr
            have Hrun := hide hrun
            have Hend := hide hend
            have Z := hide hsc
            refine hKq _ _ ?_
            clear hKq hsc hrun hend hr
            go_wp2
            refine wp_loop_ghost_k (fun g a w' => Fr a 120 ∧ sl a 6 = .pointer (some ⟨S, 0, none⟩) ∧ sl a 8 = .int .i64 e ∧ sl a 9 = .int .i64 i ∧ sl a 10 = .int .i64 r ∧ (∃ (j : Nat) (l3 : List Int), sl a 11 = .int .i64 j ∧ i ≤ j ∧ j ≤ e ∧ g = e - j ∧ l3.length = n ∧ (∀ z, z < n → l3.getD z 0 = if i ≤ z ∧ z < j then (if z - i < r then 45 else 43) else l.getD z 0) ∧ Sc w w' S O (nF + nT) n (.slice aF nF cF) (.slice aT nT cT) r3 r4 l3 sp)) (e - i) ?_ ?_
            · exact ⟨⟨rfl, rfl⟩, rfl, rfl, rfl, rfl, i, l, rfl, by omega, by omega, rfl, hln, fun z _ => by rw [if_neg (by omega)], Z.out⟩
            · clear Z u
              rintro g a wr ⟨hf, h6, h8, h9, h10, j, l3, h11, hj1, hj2, rfl, hl3, hv3, hsc⟩ J3 K3 hJ3 hK3
              obtain ⟨u, hu, ha⟩ := frame120 a hf.df hf.sz
              rw [hu] at h6 h8 h9 h10 h11
              subst ha
              clear hf hu
              simp only [h6, h8, h9, h10, h11]
              clear h6 h8 h9 h10 h11
              have s2 : wr.cell? ⟨S, 2, none⟩ = some (.slice (some ⟨O, 0, none⟩) n (nF + nT)) := hsc.st.cell rfl
              have Z := hide hsc
              have Hv3 := hide hv3
              by_cases hje : j < e
              · have c0 := hsc.cell j (by omega)
                have f0 := hsc.op.frozen j
                have hsc1 := hsc.setO j (by omega) 43
                have s2' : (wr.setCell ⟨O, j, none⟩ (.int .u8 43)).cell? ⟨S, 2, none⟩ = some (.slice (some ⟨O, 0, none⟩) n (nF + nT)) := hsc1.st.cell rfl
                have f1 := hsc1.op.frozen j
                have c1 := hsc1.cell j (by rw [List.length_set]; omega)
                have hso : ¬ O = S := fun h => hsc.so h.symm
                have hso' : ¬ S = O := hsc.so
                have V1 := hide hsc1
                have V2 := hide (hsc1.setO j (by rw [List.length_set]; omega) 45)
                clear hsc1
                generalize l3.getD j 0 = old at c0
                clear hsc hv3
                by_cases hjr : j - i < r
                · have b1 : (j : Int) - i < r := by omega
                  go_wp2
                  refine Handed.intro (e - (j + 1)) (by omega) (hJ3 _ _ _ ?_)
                  refine ⟨⟨rfl, rfl⟩, rfl, rfl, rfl, rfl, j + 1, (l3.set j 43).set j 45, by go_num, by omega, by omega, rfl, by simpa using hl3, fun z hz => ?_, V2.out⟩
                  rw [getD_set _ _ _ _ (by rw [List.length_set]; omega), getD_set _ _ _ _ (by omega)]
                  by_cases ez : j = z
                  · rw [if_pos ez, if_pos (by omega), if_pos (by omega)]
                  · rw [if_neg ez, if_neg ez, Hv3.out z hz]
                    by_cases e2 : i ≤ z ∧ z < j
                    · rw [if_pos e2, if_pos (by omega : i ≤ z ∧ z < j + 1)]
                    · rw [if_neg e2, if_neg (by omega : ¬ (i ≤ z ∧ z < j + 1))]
                · have b1 : ¬ (j : Int) - i < r := by omega
                  go_wp2
                  refine Handed.intro (e - (j + 1)) (by omega) (hJ3 _ _ _ ?_)
                  refine ⟨⟨rfl, rfl⟩, rfl, rfl, rfl, rfl, j + 1, l3.set j 43, by go_num, by omega, by omega, rfl, by simpa using hl3, fun z hz => ?_, V1.out⟩
                  rw [getD_set _ _ _ _ (by omega)]
                  by_cases ez : j = z
                  · rw [if_pos ez, if_pos (by omega : i ≤ z ∧ z < j + 1), if_neg (by omega)]
                  · rw [if_neg ez, Hv3.out z hz]
                    by_cases e2 : i ≤ z ∧ z < j
                    · rw [if_pos e2, if_pos (by omega : i ≤ z ∧ z < j + 1)]
                    · rw [if_neg e2, if_neg (by omega : ¬ (i ≤ z ∧ z < j + 1))]
              · obtain rfl : j = e := by omega
                have Hn := hide (Cn.out.sort he1 he2 Hrun.out Hend.out hl3 (by rw [← Hr.out]; exact hv3))
                clear hsc hv3
                go_wp2
                refine Handed.intro (n - j) (by omega) (hJ1 _ _ _ ?_)
                exact ⟨⟨rfl, rfl⟩, rfl, j, l3, rfl, rfl, Hn.out, Z.out⟩
          clear hKq
          refine wp_loop_ghost_k (fun g a w' => Fr a 120 ∧ sl a 6 = .pointer (some ⟨S, 0, none⟩) ∧ sl a 9 = .int .i64 i ∧ (∃ (e r : Nat), sl a 8 = .int .i64 e ∧ sl a 10 = .int .i64 r ∧ i ≤ e ∧ e ≤ n ∧ g = n - e ∧ (∀ j, i ≤ j → j < e → l.getD j 0 ≠ 32) ∧ r = My.rems (My.runOf l i e)) ∧ Sc w w' S O (nF + nT) n (.slice aF nF cF) (.slice aT nT cT) r3 r4 l sp) (n - i) ?_ ?_
          · exact ⟨⟨rfl, rfl⟩, rfl, rfl, ⟨i, 0, rfl, rfl, by omega, by omega, rfl, fun j h1 h2 => by omega, by simp [My.runOf, My.rems]⟩, Z.out⟩
          · clear Z u c0 s2
            rintro g a wr ⟨hf, h6, h9, ⟨e, r, h8, h10, he1, he2, rfl, hrun, hr⟩, hsc⟩ J2 K2 hJ2 hK2
            obtain ⟨u, hu, ha⟩ := frame120 a hf.df hf.sz
            rw [hu] at h6 h8 h9 h10
            subst ha
            clear hf hu
            simp only [h6, h8, h9, h10]
            clear h6 h8 h9 h10
            have s2 : wr.cell? ⟨S, 2, none⟩ = some (.slice (some ⟨O, 0, none⟩) n (nF + nT)) := hsc.st.cell rfl
            have Z := hide hsc
            have Hrun := hide hrun
            have hrb : r ≤ n := by have := My.rems_le (My.runOf l i e); have := My.runOf_length (l := l) (i := i) (e := e) (by omega); omega
            have Hr := hide hr
            clear hr
            by_cases hen : e < n
            · have c0 := hsc.cell e (by omega)
              by_cases e32 : l.getD e 0 = 32
              · have hie : i < e := by
                  by_cases h : i = e
                  · subst h; exact absurd e32 H32.out
                  · omega
                have E : Hid (RunTo l n i (.int .i64 e) (.int .i64 r)) := ⟨⟨e, r, rfl, rfl, hie, he2, hrun, Or.inr e32, Hr.out⟩⟩
                rw [e32] at c0
                clear hsc hrun e32
                go_wp2
                exact ⟨⟨rfl, rfl⟩, rfl, rfl, E.out, Z.out⟩
              · have sn := My.runOf_snoc (l := l) (i := i) (e := e) he1 (by omega)
                by_cases e45 : l.getD e 0 = 45
                · have Hn : Hid (r + 1 = My.rems (My.runOf l i (e + 1))) := by
                    show r + 1 = _
                    rw [sn, My.rems_append, ← Hr.out, e45]; rfl
                  have H2 : Hid (∀ j, i ≤ j → j < e + 1 → l.getD j 0 ≠ 32) := fun j h1 h2 => by
                    by_cases h : j < e
                    · exact Hrun.out j h1 h
                    · rw [show j = e by omega, e45]; decide
                  rw [e45] at c0
                  clear hsc hrun e32 e45 sn
                  go_wp2
                  refine Handed.intro (n - (e + 1)) (by omega) (hJ2 _ _ _ ?_)
                  exact ⟨⟨rfl, rfl⟩, rfl, rfl, ⟨e + 1, r + 1, by go_num, by go_num, by omega, by omega, rfl, H2.out, Hn.out⟩, Z.out⟩
                · have Hn : Hid (r = My.rems (My.runOf l i (e + 1))) := by
                    show r = _
                    rw [sn, My.rems_append, ← Hr.out]; simp only [My.rems, if_neg e45]; omega
                  have H2 : Hid (∀ j, i ≤ j → j < e + 1 → l.getD j 0 ≠ 32) := fun j h1 h2 => by
                    by_cases h : j < e
                    · exact Hrun.out j h1 h
                    · rw [show j = e by omega]; exact e32
                  have b1 : (l.getD e 0 != 32) = true := by simpa using e32
                  have b2 : (l.getD e 0 == 45) = false := by simpa using e45
                  clear hsc hrun e32 e45 sn
                  generalize l.getD e 0 = o2 at c0 b1 b2
                  go_wp2
                  refine Handed.intro (n - (e + 1)) (by omega) (hJ2 _ _ _ ?_)
                  exact ⟨⟨rfl, rfl⟩, rfl, rfl, ⟨e + 1, r, by go_num, rfl, by omega, by omega, rfl, H2.out, Hn.out⟩, Z.out⟩
            · have E : Hid (RunTo l n i (.int .i64 e) (.int .i64 r)) := ⟨⟨e, r, rfl, rfl, by omega, he2, hrun, Or.inl (by omega), Hr.out⟩⟩
              clear hsc hrun
              go_wp2
              exact ⟨⟨rfl, rfl⟩, rfl, rfl, E.out, Z.out⟩
      · obtain rfl : i = n := by omega
        have hcan : Canon false l := by have := hcn.canon; rwa [List.take_of_length_le (by omega)] at this
        have hsv : My.Sv (Eqs X Y) i nF nT c l 0 0 0 := ⟨hcn.len, Nat.zero_le _, ⟨rfl, rfl⟩, hcn.vs, hcan, hcn.kept⟩
        have hslide := slide_any w S O (nF + nT) i aF aT nF nT cF cT r3 r4 l sp X Y hX hY hnF hnT hn8 hsX hsY hrF hrT c hsv wr hsc.st hsc.op hsc.so hsc.s0 hsc.o0 hsc.below
        have Hsl := hide hslide
        clear hslide hsv hcan hcn hsc
        go_wp2_with fail
        refine Hsl.out.mono ?_
        rintro e w3 ⟨rfl, l', q1, q2, q3, q4, q5, q6, q7⟩
        have s3 : w3.cell? ⟨S, 2, none⟩ = some (.slice (some ⟨O, 0, none⟩) i (nF + nT)) := q1.cell rfl
        have Hfin : Hid ((∃ (O' n cap : Nat) (l : List Int), Ending.returned (.slice (some ⟨O, 0, none⟩) i (nF + nT)) = .returned (.slice (some ⟨O', 0, none⟩) n cap) ∧ Rd w3 (some ⟨O', 0, none⟩) n (bv l) ∧ l.length = n ∧ n ≤ 8192 ∧ My.Vs (Eqs X Y) l 0 0 nF nT ∧ Canon false l ∧ My.kept l = c) ∧ Below w.heap.size w w3) :=
          ⟨⟨O, i, nF + nT, l', rfl, Rd.of_blk q2 (fun j hj => opcells_get l' sp j (by omega)), q6, hn8, q3, q4, q5⟩, q7⟩
        clear q1 q2 q3 q4 q5 q6 q7 Hsl
        go_wp2_with fail
        go_ret
        exact Hfin.out
  clear hKa
  have hmk := fun w => run_make_row' (P := Tryd.prog) 40 3 (.int .i64 0) 8 Tryd.underlying40 Tryd.info3 rfl .i64 .i64 N (by omega) (by omega) w
  have hlt : w.heap.size < w1.heap.size := (hown.lt _ rfl).2
  have XO := hide hown
  have XG := hide hg
  clear hown hg hi hz0 hz1 hz2 hrF hrT hc hdist hsX hsY
  go_region
  all_goals go_wp2
  · exact ⟨⟨rfl, rfl⟩, rfl, rfl, w1.heap.size, w.heap.size, w1.heap.size + 1, w1.heap.size + 2, rfl, st_made w w1 nF nT N _ _ XO.out XG.out hlt 1 _ _ (Or.inl ⟨rfl, rfl⟩)⟩
  · exact ⟨⟨rfl, rfl⟩, rfl, rfl, w1.heap.size, w.heap.size, w1.heap.size + 2, w1.heap.size + 1, rfl, st_made w w1 nF nT N _ _ XO.out XG.out hlt 1 _ _ (Or.inr ⟨rfl, rfl⟩)⟩

end Go.Proofs.Qxb6606138aDoor
