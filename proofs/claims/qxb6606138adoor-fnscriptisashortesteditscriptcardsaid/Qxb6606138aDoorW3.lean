import Derived.Test.Qxb6606138aDoorW2
namespace Go.Proofs.Qxb6606138aDoor
open Go.RowKit

/-- Some bool is handed back. -/
def IsBool (e : Ending) : Prop := ∃ q : Bool, e = .returned (.bool q)
theorem IsBool.mk (q : Bool) : IsBool (.returned (.bool q)) := ⟨q, rfl⟩

/-- 'zzBytes_..': it answers, and turns nothing. -/
theorem zzBytes_any (a1 a2 : Option Addr) (n m c1 c2 : Nat) (A B : List ByteArray) (hn : n ≤ 140737488355328) (hm : m ≤ 140737488355328)
    (hsA : ∀ i, i < n → (A.getD i ByteArray.empty).size ≤ 140737488355328) (hsB : ∀ i, i < m → (B.getD i ByteArray.empty).size ≤ 140737488355328)
    (w : World) (hc1 : Rd w a1 n (sv A)) (hc2 : Rd w a2 m (sv B)) :
    Calls Tryd.prog 17 #[.slice a1 n c1, .slice a2 m c2] w fun e w' => IsBool e ∧ w' = w := by
  by_cases h1 : (1048576 : Int) < n
  · go_enter Tryd.func17, Tryd.ntmps17
    go_wp2
    go_ret
    exact ⟨IsBool.mk _, rfl⟩
  · go_enter Tryd.func17, Tryd.ntmps17
    go_wp2
    go_loop [5, 6] (fun t i => ∃ k : Nat, ∃ q : Int, k ≤ n ∧ i = .int .i64 k ∧ t = .int .i64 q ∧ 0 ≤ q ∧ q ≤ 1048576) (fun _ i => n - (intOf i).toNat)
    case atStart => exact ⟨0, n, Nat.zero_le _, rfl, rfl, by omega, by omega⟩
    case round =>
      obtain ⟨k, q, hk, rfl, rfl, hq0, hq1⟩ := hrel
      by_cases hlt : k < n
      · obtain ⟨b, off, rfl, hc'⟩ := hc1.at (by omega)
        have g1 := hc' k hlt
        have g2 : ((A.getD k ByteArray.empty).size : Int) ≤ 140737488355328 := by have := hsA k hlt; omega
        unfold sv at g1
        clear hc1 hc2 hc' hsA hsB
        generalize A.getD k ByteArray.empty = s at g1 g2
        go_wp2
        · go_ret
          exact ⟨IsBool.mk _, rfl⟩
        · go_ret
          exact ⟨IsBool.mk _, rfl⟩
        · go_round
          case rel => exact ⟨k + 1, _, by omega, by go_num, rfl, by omega, by omega⟩
          case measure => simp [intOf]; omega
      · by_cases h2 : (1048576 : Int) < m
        · go_wp2
          go_ret
          exact ⟨IsBool.mk _, rfl⟩
        · by_cases h3 : (1048576 : Int) < q + m
          · go_wp2
            go_ret
            exact ⟨IsBool.mk _, rfl⟩
          · go_wp2
            go_loop [5, 7] (fun t i => ∃ k : Nat, ∃ q : Int, k ≤ m ∧ i = .int .i64 k ∧ t = .int .i64 q ∧ 0 ≤ q ∧ q ≤ 1048576) (fun _ i => m - (intOf i).toNat)
            case atStart => exact ⟨0, q + m, Nat.zero_le _, rfl, rfl, by omega, by omega⟩
            case round =>
              obtain ⟨k, q, hk, rfl, rfl, hq0, hq1⟩ := hrel
              by_cases hlt : k < m
              · obtain ⟨b, off, rfl, hc'⟩ := hc2.at (by omega)
                have g1 := hc' k hlt
                have g2 : ((B.getD k ByteArray.empty).size : Int) ≤ 140737488355328 := by have := hsB k hlt; omega
                unfold sv at g1
                clear hc1 hc2 hc' hsA hsB
                generalize B.getD k ByteArray.empty = s at g1 g2
                go_wp2
                · go_ret
                  exact ⟨IsBool.mk _, rfl⟩
                · go_ret
                  exact ⟨IsBool.mk _, rfl⟩
                · go_round
                  case rel => exact ⟨k + 1, _, by omega, by go_num, rfl, by omega, by omega⟩
                  case measure => simp [intOf]; omega
              · go_wp2
                go_ret
                exact ⟨IsBool.mk _, rfl⟩

theorem replicate_getD0 (n j : Nat) : (List.replicate n (0 : Int)).getD j 0 = ((0 : Nat) : Int) := by
  simp only [List.getD_eq_getElem?_getD, List.getElem?_replicate]
  split <;> simp

/-- A row of the table: the first 'upto' numbers of l. -/
def Row (M : Nat → Nat → Prop) (i upto : Nat) (l : List Int) : Prop := ∀ j, j < upto → ∃ c : Nat, l.getD j 0 = c ∧ My.Lc M i j c

theorem Row.put {M : Nat → Nat → Prop} {i j : Nat} {l : List Int} (h : Row M i j l) {c : Nat} (hc : My.Lc M i j c) (hj : j < l.length) : Row M i (j + 1) (l.set j c) := by
  intro k hk
  rw [getD_set _ _ _ _ hj]
  by_cases e : j = k
  · subst e; exact ⟨c, by simp, hc⟩
  · simp only [e, if_false]; exact h k (by omega)

theorem lcs_any (a1 a2 : Option Addr) (n m c1 c2 : Nat) (A B : List ByteArray) (hA : A.length = n) (hB : B.length = m) (hn : n ≤ 4096) (hm : m ≤ 4096)
    (w : World) (hc1 : Rd w a1 n (sv A)) (hc2 : Rd w a2 m (sv B)) :
    Calls Tryd.prog 18 #[.slice a1 n c1, .slice a2 m c2] w fun e w' => (∃ c : Nat, e = .returned (.int .i64 c) ∧ My.Lc (Eqs A B) n m c) ∧ Below w.heap.size w w' := by
  obtain ⟨i0, hi, hz0, hz1, hz2⟩ := info_parts Tryd.info3
  go_enter Tryd.func18, Tryd.ntmps18
  go_wp2_with (at_make; refine wpList_make_full _ rfl (.tmp 11) (.tmp 11) 40 rfl w.heap.size 3 i0 (.int .i64 0) 1 Tryd.underlying40 hi hz0 hz1 _ _ _ _ (m + 1) rfl rfl (by omega) (by omega) (by rw [hz2]; omega) (by unfold maxLen; omega) (Nat.le_refl _) ?_)
  intro w1 hown hg
  have hb1 : Below w.heap.size w w1 := (Below.refl _ _).grown hg (Nat.le_refl _) (fun k h => by cases h)
  have hP1 : Ib w1 w.heap.size 3 .i64 (List.replicate (m + 1) 0) := Ib.of_made (by simpa using hown)
  have hsz : w.heap.size < w1.heap.size := hP1.lt
  clear hown hg
  go_wp2_with (at_make; refine wpList_make_full _ rfl (.tmp 15) (.tmp 15) 40 rfl w1.heap.size 3 i0 (.int .i64 0) 1 Tryd.underlying40 hi hz0 hz1 _ _ _ _ (m + 1) rfl rfl (by omega) (by omega) (by rw [hz2]; omega) (by unfold maxLen; omega) (Nat.le_refl _) ?_)
  intro w2 hown hg
  have hb2 : Below w.heap.size w w2 := hb1.grown hg (by omega) (fun k h => by cases h)
  have hQ2 : Ib w2 w1.heap.size 3 .i64 (List.replicate (m + 1) 0) := Ib.of_made (by simpa using hown)
  have hP2 : Ib w2 w.heap.size 3 .i64 (List.replicate (m + 1) 0) := hP1.grown hg (by simp)
  clear hown hg hP1 hi hz0 hz1 hz2 hb1
  have hne : w.heap.size ≠ w1.heap.size := by omega
  have hle : w.heap.size ≤ w1.heap.size := by omega
  generalize w1.heap.size = g1 at *
  go_wp2
  go_loopw [5, 6, 7] (fun t5 t6 t7 wr => ∃ (P Q i : Nat) (pl ql : List Int), i ≤ n ∧ t5 = .slice (some ⟨P, 0, none⟩) (m + 1) (m + 1) ∧ t6 = .slice (some ⟨Q, 0, none⟩) (m + 1) (m + 1) ∧ t7 = .int .i64 i ∧ P ≠ Q ∧ w.heap.size ≤ P ∧ w.heap.size ≤ Q ∧
      pl.length = m + 1 ∧ ql.length = m + 1 ∧ Row (Eqs A B) i (m + 1) pl ∧ Ib wr P 3 .i64 pl ∧ Ib wr Q 3 .i64 ql ∧ Below w.heap.size w wr)
    (fun _ _ i _ => n - (intOf i).toNat)
  case atStart => exact ⟨_, g1, 0, _, _, Nat.zero_le _, rfl, rfl, rfl, hne, Nat.le_refl _, hle, by simp, by simp, fun j _ => ⟨0, replicate_getD0 _ _, My.Lc_top _ _⟩, hP2, hQ2, hb2⟩
  case round =>
    clear hP2 hQ2 hb2 hsz hne hle
    obtain ⟨P, Q, i, pl, ql, hin, rfl, rfl, rfl, hPQ, hP, hQ, hpl, hql, hrow, hbP, hbQ, hbl⟩ := hrel
    by_cases hlt : i < n
    · have hf := hbQ.frozen 0
      have hq0 := hbQ.cell (i := 0) (by omega)
      have X1 : Hid (Ib wr P 3 .i64 pl) := hbP
      have X2 : Hid (Ib wr Q 3 .i64 ql) := hbQ
      have X3 : Hid (Row (Eqs A B) i (m + 1) pl) := hrow
      have X4 : Hid (pl.length = m + 1) := hpl
      have X5 : Hid (ql.length = m + 1) := hql
      clear hbP hbQ hrow hpl hql
      generalize ql.getD 0 0 = q0 at hq0
      go_wp2
      have Y2 : Ib (wr.setCell ⟨Q, 0, none⟩ (.int .i64 0)) Q 3 .i64 (ql.set 0 0) := X2.out.set 0 0
      have Y1 : Ib (wr.setCell ⟨Q, 0, none⟩ (.int .i64 0)) P 3 .i64 pl := X1.out.set_ne _ (by simp; omega)
      have Y3 : Below w.heap.size w (wr.setCell ⟨Q, 0, none⟩ (.int .i64 0)) := hbl.setCell (by simp; omega) _
      have Y4 : Row (Eqs A B) (i + 1) 1 (ql.set 0 0) := by
        intro j hj
        obtain rfl : j = 0 := by omega
        refine ⟨0, ?_, My.Lc_side _ _⟩
        rw [getD_set _ _ _ _ (by rw [X5.out]; omega)]; simp
      go_loopw [8] (fun t8 ws => ∃ (j : Nat) (qs : List Int), j ≤ m ∧ t8 = .int .i64 j ∧ qs.length = m + 1 ∧ Row (Eqs A B) (i + 1) (j + 1) qs ∧ Ib ws P 3 .i64 pl ∧ Ib ws Q 3 .i64 qs ∧ Below w.heap.size w ws)
        (fun t8 _ => m - (intOf t8).toNat)
      case atStart => exact ⟨0, _, Nat.zero_le _, rfl, by rw [List.length_set]; exact X5.out, Y4, Y1, Y2, Y3⟩
      case round =>
        clear Y1 Y2 Y3 Y4 hf hq0 X1 X2 X5 hbl
        obtain ⟨j, qs, hjm, rfl, hql, hrq, hbP, hbQ, hbs⟩ := hrel
        by_cases hjlt : j < m
        · obtain ⟨b1, off1, rfl, hc1'⟩ := (hc1.below hbs (Nat.le_refl _)).at (by omega)
          obtain ⟨b2, off2, rfl, hc2'⟩ := (hc2.below hbs (Nat.le_refl _)).at (by omega)
          have r1 := hc1' i hlt
          have r2 := hc2' j hjlt
          unfold sv at r1 r2
          obtain ⟨cd, hcd, Lcd⟩ := X3.out j (by omega)
          obtain ⟨cu, hcu, Lcu⟩ := X3.out (j + 1) (by omega)
          obtain ⟨cl, hcl, Lcl⟩ := hrq j (by omega)
          have p1 := hbP.cell (i := j) (by rw [X4.out]; omega)
          have p2 := hbP.cell (i := j + 1) (by rw [X4.out]; omega)
          have p3 := hbQ.cell (i := j) (by omega)
          have p4 := hbQ.cell (i := j + 1) (by omega)
          have p5 := hbQ.frozen (j + 1)
          rw [hcd] at p1
          rw [hcu] at p2
          rw [hcl] at p3
          have bd := My.Lc_le Lcd
          have bu := My.Lc_le Lcu
          have blc := My.Lc_le Lcl
          have Z1 : Hid (Ib wr P 3 .i64 pl) := hbP
          have Z2 : Hid (Ib wr Q 3 .i64 qs) := hbQ
          have Z3 : Hid (Row (Eqs A B) (i + 1) (j + 1) qs) := hrq
          have Z4 : Hid (qs.length = m + 1) := hql
          clear hbP hbQ hrq hql hc1 hc2 hc1' hc2' hcd hcu hcl
          generalize qs.getD (j + 1) 0 = q1 at p4
          by_cases he : ((A.getD i ByteArray.empty).toList == (B.getD j ByteArray.empty).toList) = true
          · have L := My.Lc_match (M := Eqs A B) ⟨by omega, by omega, he⟩ Lcd
            clear Lcd Lcu Lcl
            generalize A.getD i ByteArray.empty = s1 at r1 he
            generalize B.getD j ByteArray.empty = s2 at r2 he
            go_wp2
            go_quiet (fail)
            go_wp2
            go_roundw
            case rel => exact ⟨j + 1, qs.set (j + 1) ((cd + 1 : Nat) : Int), by omega, by go_num, by rw [List.length_set]; exact Z4.out, Z3.out.put L (by rw [Z4.out]; omega), (Z1.out.drewN _).set_ne _ (by simp; omega), by simpa using (Z2.out.drewN nq).set (j + 1) ((cd + 1 : Nat) : Int), (below_drewN hbs _).setCell (by simp; omega) _⟩
            case measure => simp [intOf]; omega
          · have L := My.Lc_skip (M := Eqs A B) (fun h => he h.2.2) Lcu Lcl
            have hne : ((A.getD i ByteArray.empty).toList == (B.getD j ByteArray.empty).toList) = false := by simpa using he
            clear Lcd Lcu Lcl he
            generalize A.getD i ByteArray.empty = s1 at r1 hne
            generalize B.getD j ByteArray.empty = s2 at r2 hne
            by_cases hcmp : cl ≤ cu
            · rw [if_pos hcmp] at L
              go_wp2
              go_quiet (fail)
              go_wp2
              go_quiet (fail)
              go_wp2
              go_roundw
              case rel => exact ⟨j + 1, qs.set (j + 1) (cu : Int), by omega, by go_num, by rw [List.length_set]; exact Z4.out, Z3.out.put L (by rw [Z4.out]; omega), Ib.set_ne (Ib.drewN Z1.out _) _ (by simp; omega), Ib.set (Ib.drewN Z2.out _) (j + 1) (cu : Int), (below_drewN hbs _).setCell (by simp; omega) _⟩
              case measure => simp [intOf]; omega
            · rw [if_neg hcmp] at L
              go_wp2
              go_quiet (fail)
              go_wp2
              go_quiet (fail)
              go_wp2
              go_roundw
              case rel => exact ⟨j + 1, qs.set (j + 1) (cl : Int), by omega, by go_num, by rw [List.length_set]; exact Z4.out, Z3.out.put L (by rw [Z4.out]; omega), Ib.set_ne (Ib.drewN Z1.out _) _ (by simp; omega), Ib.set (Ib.drewN Z2.out _) (j + 1) (cl : Int), (below_drewN hbs _).setCell (by simp; omega) _⟩
              case measure => simp [intOf]; omega
        · have ej : j = m := by omega
          have Z3 : Hid (Row (Eqs A B) (i + 1) (m + 1) qs) := by rw [ej] at hrq; exact hrq
          clear hrq
          go_wp2
          go_roundw
          case rel => exact ⟨Q, P, i + 1, qs, pl, by omega, rfl, rfl, by go_num, by omega, hQ, hP, hql, X4.out, Z3.out, hbQ, hbP, hbs⟩
          case measure => simp [intOf]; omega
    · obtain rfl : i = n := by omega
      obtain ⟨c, hc, L⟩ := hrow m (by omega)
      have p1 := hbP.cell (i := m) (by omega)
      rw [hc] at p1
      clear hrow hc
      go_wp2
      go_ret
      exact ⟨⟨c, rfl, L⟩, hbl⟩
end Go.Proofs.Qxb6606138aDoor
