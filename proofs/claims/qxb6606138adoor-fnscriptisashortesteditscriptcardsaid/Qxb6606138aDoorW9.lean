import Derived.Test.Qxb6606138aDoorW8
import Derived.Test.Qxb6606138aDoorMoves
import Derived.Test.Qxb6606138aDoorFr
import Derived.Deep.DeepCutAuto
namespace Go.Proofs.Qxb6606138aDoor
open Go.RowKit

/-- What slide's memory holds: the struct at S, its own variable at V, the ops at O. -/
structure Sd (w0 w : World) (S V O cap n : Nat) (fv tv r3 r4 : Value) (l : List Int) (sp : List Value) : Prop where
  st : Blk w S 42 [fv, tv, .slice (some ⟨O, 0, none⟩) n cap, r3, r4]
  va : Blk w V 29 [.slice (some ⟨O, 0, none⟩) n cap]
  op : Blk w O 38 (opcells l sp)
  so : S ≠ O
  sv : S ≠ V
  vo : V ≠ O
  o0 : w0.heap.size ≤ O
  below : Below w0.heap.size w0 w

theorem Sd.drewN {w0 w : World} {S V O cap n : Nat} {fv tv r3 r4 : Value} {l : List Int} {sp : List Value} (h : Sd w0 w S V O cap n fv tv r3 r4 l sp) (q : Nat) : Sd w0 (w.drewN q) S V O cap n fv tv r3 r4 l sp :=
  { h with st := h.st, va := h.va, op := h.op, below := below_drewN h.below q }

theorem Sd.setO {w0 w : World} {S V O cap n : Nat} {fv tv r3 r4 : Value} {l : List Int} {sp : List Value} (h : Sd w0 w S V O cap n fv tv r3 r4 l sp) (i : Nat) (hi : i < l.length) (v : Int) : Sd w0 (w.setCell ⟨O, i, none⟩ (.int .u8 v)) S V O cap n fv tv r3 r4 (l.set i v) sp :=
  { h with st := h.st.set_ne _ (fun e => h.so e.symm), va := h.va.set_ne _ (fun e => h.vo e.symm), op := by rw [← opcells_set _ _ _ hi]; exact h.op.set i _, below := h.below.setCell h.o0 _ }

theorem Sd.cell {w0 w : World} {S V O cap n : Nat} {fv tv r3 r4 : Value} {l : List Int} {sp : List Value} (h : Sd w0 w S V O cap n fv tv r3 r4 l sp) (i : Nat) (hi : i < l.length) : w.cell? ⟨O, i, none⟩ = some (.int .u8 (l.getD i 0)) := h.op.cell (opcells_get l sp i hi)

theorem keptAt_true (i : Int) (hi : -10000 ≤ i) (hi2 : i ≤ 10000000) (V O cap n : Nat) (l : List Int) (sp : List Value) (hn : l.length = n) (hl : n ≤ 1048576) (hk : keptB l i = true) (w : World) (hV : Blk w V 29 [.slice (some ⟨O, 0, none⟩) n cap]) (hO : Blk w O 38 (opcells l sp)) :
    Calls Tryd.prog 25 #[.int .i64 i, .pointer (some ⟨V, 0, none⟩)] w fun e w' => e = .returned (.bool true) ∧ w' = w := by
  subst hn
  rw [← hk]
  exact keptAt_any i hi hi2 V O cap l sp hl w (hV.cell rfl) hO

theorem keptAt_false (i : Int) (hi : -10000 ≤ i) (hi2 : i ≤ 10000000) (V O cap n : Nat) (l : List Int) (sp : List Value) (hn : l.length = n) (hl : n ≤ 1048576) (hk : keptB l i = false) (w : World) (hV : Blk w V 29 [.slice (some ⟨O, 0, none⟩) n cap]) (hO : Blk w O 38 (opcells l sp)) :
    Calls Tryd.prog 25 #[.int .i64 i, .pointer (some ⟨V, 0, none⟩)] w fun e w' => e = .returned (.bool false) ∧ w' = w := by
  subst hn
  rw [← hk]
  exact keptAt_any i hi hi2 V O cap l sp hl w (hV.cell rfl) hO

/-- Where a run of one op ends. -/
structure RunEnd (l : List Int) (n p : Nat) (o : Int) (v7 : Value) : Prop where
  out : ∃ q : Nat, v7 = .int .i64 q ∧ p < q ∧ q ≤ n ∧ (∀ j, p ≤ j → j < q → l.getD j 0 = o) ∧ (q = n ∨ l.getD q 0 ≠ o)

/-- Whether the run mixes. -/
structure Mix (l : List Int) (n q : Nat) (v66 : Value) : Prop where
  out : ∃ b : Bool, v66 = .bool b ∧ (b = false → q = n ∨ l.getD q 0 = 32) ∧ (b = true → q < n ∧ l.getD q 0 ≠ 32)

/-- How far up the run may go. -/
structure UpAt (L : List ByteArray) (l : List Int) (p at' k up : Nat) : Prop where
  le : up ≤ p
  kept : ∀ j, p - up ≤ j → j < p → l.getD j 0 = 32
  edge : p - up = 0 ∨ l.getD (p - up - 1) 0 = 32
  same : ∀ j, at' - up ≤ j → j < at' → Same L j (j + k)

/-- How far down the run may go. -/
structure DownAt (L : List ByteArray) (l : List Int) (n q at' k down : Nat) : Prop where
  le : q + down ≤ n
  kept : ∀ j, q ≤ j → j < q + down → l.getD j 0 = 32
  edge : q + down = n ∨ l.getD (q + down) 0 = 32
  same : ∀ j, at' ≤ j → j < at' + down → Same L j (j + k)

theorem keptB_in {l : List Int} {j : Nat} (hj : j < l.length) : keptB l (j : Int) = (l.getD j 0 == 32) := by
  unfold keptB
  rw [decide_eq_false (by omega), decide_eq_false (by omega)]
  simp

theorem keptB_out {l : List Int} {i : Int} (h : i < 0 ∨ (l.length : Int) ≤ i) : keptB l i = true := by
  unfold keptB
  rcases h with h | h <;> simp [h]

/-- The run's zone laid out kept. -/
structure Fill7 (l l7 : List Int) (n p q up down : Nat) : Prop where
  len : l7.length = n
  get : ∀ j, j < n → l7.getD j 0 = if p - up ≤ j ∧ j < q + down then 32 else l.getD j 0

/-- And the run laid into it. -/
structure Fill8 (l l8 : List Int) (n p q up down : Nat) (sh o : Int) : Prop where
  len : l8.length = n
  get : ∀ j, j < n → l8.getD j 0 = if (p : Int) + sh ≤ j ∧ (j : Int) < q + sh then o else if p - up ≤ j ∧ j < q + down then 32 else l.getD j 0

/-- The measure of the scan goes down where a change has been passed. -/
theorem meas {a b n p p' : Nat} (h : a < b) (_hp : p ≤ n) : a * (n + 1) + (n - p') < b * (n + 1) + (n - p) := by
  have : (a + 1) * (n + 1) ≤ b * (n + 1) := Nat.mul_le_mul_right _ h
  rw [Nat.add_mul] at this
  omega

set_option maxRecDepth 100000 in
set_option maxHeartbeats 8000000 in
theorem slide_any (w0 : World) (S O cap n : Nat) (aF aT : Option Addr) (nF nT cF cT : Nat) (r3 r4 : Value) (l0 : List Int) (sp : List Value) (X Y : List ByteArray) (hX : X.length = nF) (hY : Y.length = nT) (hnF : nF ≤ 4096) (hnT : nT ≤ 4096) (hn : n ≤ 8192)
    (hsX : ∀ i, i < nF → (X.getD i ByteArray.empty).size ≤ 140737488355328) (hsY : ∀ i, i < nT → (Y.getD i ByteArray.empty).size ≤ 140737488355328)
    (hrF : Rd w0 aF nF (sv X)) (hrT : Rd w0 aT nT (sv Y)) (c : Nat) (hSv0 : My.Sv (Eqs X Y) n nF nT c l0 0 0 0) (w : World)
    (hS : Blk w S 42 [.slice aF nF cF, .slice aT nT cT, .slice (some ⟨O, 0, none⟩) n cap, r3, r4]) (hO : Blk w O 38 (opcells l0 sp)) (hSO : S ≠ O) (_hS0 : w0.heap.size ≤ S) (hO0 : w0.heap.size ≤ O) (hbl : Below w0.heap.size w0 w) :
    Calls Tryd.prog 22 #[.pointer (some ⟨S, 0, none⟩)] w fun e w' => e = .returned (.tuple #[]) ∧ ∃ l : List Int, Blk w' S 42 [.slice aF nF cF, .slice aT nT cT, .slice (some ⟨O, 0, none⟩) n cap, r3, r4] ∧ Blk w' O 38 (opcells l sp) ∧
      My.Vs (Eqs X Y) l 0 0 nF nT ∧ Canon false l ∧ My.kept l = c ∧ l.length = n ∧ Below w0.heap.size w0 w' := by
  have s2 : w.cell? ⟨S, 2, none⟩ = some (.slice (some ⟨O, 0, none⟩) n cap) := hS.cell rfl
  obtain ⟨V, HV⟩ : ∃ V, Hid (V = w.heap.size) := ⟨_, rfl⟩
  go_enter Tryd.func22, Tryd.ntmps22
  go_wp2
  rw [show w.heap.size = V from HV.out.symm]
  have Z0 : Hid (Sd w0 (w.alloc (.cells #[.slice (some ⟨O, 0, none⟩) n cap] 29)) S V O cap n (.slice aF nF cF) (.slice aT nT cT) r3 r4 l0 sp) := by
    have hlS := hS.lt
    have hlO := hO.lt
    have hV := HV.out
    refine ⟨hS.alloc _, by rw [hV]; exact Blk.new _ _ _, hO.alloc _, hSO, by omega, by omega, hO0, hbl.alloc hbl.size _⟩
  clear s2 hS hO
  refine wp_loop_ghost_k (fun g a w' => Fr a 257 ∧ sl a 0 = .pointer (some ⟨S, 0, none⟩) ∧ sl a 2 = .pointer (some ⟨V, 0, none⟩) ∧ ∃ (p fa ta : Nat) (l : List Int), sl a 3 = .int .i64 fa ∧ sl a 4 = .int .i64 ta ∧ sl a 5 = .int .i64 p ∧ g = My.cost (l.drop p) * (n + 1) + (n - p) ∧ My.Sv (Eqs X Y) n nF nT c l p fa ta ∧ My.Edge l p ∧ Sd w0 w' S V O cap n (.slice aF nF cF) (.slice aT nT cT) r3 r4 l sp) (My.cost (l0.drop 0) * (n + 1) + (n - 0)) ?_ ?_
  · exact ⟨⟨rfl, rfl⟩, rfl, rfl, 0, 0, 0, l0, rfl, rfl, rfl, rfl, hSv0, fun _ _ => Or.inl rfl, Z0.out⟩
  · clear Z0 hSv0
    rintro g a wr ⟨hf, h0, h2, p, fa, ta, l, h3, h4, h5, rfl, hsv, hedge, hsd⟩ J1 K1 hJ1 hK1
    obtain ⟨u, hu, ha⟩ := frame257 a hf.df hf.sz
    rw [hu] at h0 h2 h3 h4 h5
    subst ha
    clear hf hu
    simp only [h0, h2, h3, h4, h5]
    clear h0 h2 h3 h4 h5
    have hins := hsv.inside
    have hpn := hsv.pn
    have hln := hsv.len
    have v0 : wr.cell? ⟨V, 0, none⟩ = some (.slice (some ⟨O, 0, none⟩) n cap) := hsd.va.cell rfl
    have Z := hide hsd
    have Sv := hide hsv
    have Hed := hide hedge
    by_cases hp : p < n
    · have c0 := hsd.cell p (by omega)
      rcases hsv.op hp with ⟨e32, _⟩ | e45
      · rw [e32] at c0
        have Hn := hide (hsv.keep hp e32)
        have He : Hid (My.Edge l (p + 1)) := fun _ _ => Or.inr (by simpa using e32)
        have Hc : Hid (My.cost (l.drop (p + 1)) = My.cost (l.drop p)) := My.cost_drop_eq (by omega) e32
        clear hsd hsv hedge e32
        go_wp2
        refine Handed.intro (My.cost (l.drop (p + 1)) * (n + 1) + (n - (p + 1))) (by rw [Hc.out]; omega) (hJ1 _ _ _ ?_)
        exact ⟨⟨rfl, rfl⟩, rfl, rfl, p + 1, fa + 1, ta + 1, l, by go_num, by go_num, by go_num, rfl, Hn.out, He.out, Z.out⟩
      · obtain ⟨o, ho⟩ : ∃ o, o = l.getD p 0 := ⟨_, rfl⟩
        have ho2 : o = 45 ∨ o = 43 := by
          rcases e45 with h | h
          · exact Or.inl (ho.trans h.1)
          · exact Or.inr (ho.trans h.1)
        rw [← ho] at c0
        have b32 : (o == 32) = false := by rcases ho2 with h | h <;> subst h <;> rfl
        have Ho2 := hide ho2
        have Ho := hide ho
        clear hsd hsv hedge e45 ho2 ho
        go_wp2
        rename_i Kq hKq
        have hend2 : ∀ a w', Fr a 257 ∧ sl a 0 = .pointer (some ⟨S, 0, none⟩) ∧ sl a 2 = .pointer (some ⟨V, 0, none⟩) ∧ sl a 3 = .int .i64 fa ∧ sl a 4 = .int .i64 ta ∧ sl a 5 = .int .i64 p ∧ sl a 6 = .int .u8 o ∧ RunEnd l n p o (sl a 7) ∧ Sd w0 w' S V O cap n (.slice aF nF cF) (.slice aT nT cT) r3 r4 l sp → Kq a w' := by
          clear Z u c0 v0
          rintro a wr ⟨hf, h0, h2, h3, h4, h5, h6, ⟨⟨q, h7, hq1, hq2, hrun, hqe⟩⟩, hsd⟩
          obtain ⟨u, hu, ha⟩ := frame257 a hf.df hf.sz
          rw [hu] at h0 h2 h3 h4 h5 h6 h7
          subst ha
          clear hf hu
          simp only [h0, h2, h3, h4, h5, h6, h7]
          clear h0 h2 h3 h4 h5 h6 h7
          have v0 : wr.cell? ⟨V, 0, none⟩ = some (.slice (some ⟨O, 0, none⟩) n cap) := hsd.va.cell rfl
          have Hrun := hide hrun
          have Z := hide hsd
          refine hKq _ _ ?_
          clear hKq hrun
          go_upto_region 9 with fail
          rename_i Ka hKa
          have h9 : ∀ a w', Fr a 257 ∧ sl a 0 = .pointer (some ⟨S, 0, none⟩) ∧ sl a 2 = .pointer (some ⟨V, 0, none⟩) ∧ sl a 3 = .int .i64 fa ∧ sl a 4 = .int .i64 ta ∧ sl a 5 = .int .i64 p ∧ sl a 6 = .int .u8 o ∧ sl a 7 = .int .i64 q ∧ Mix l n q (sl a 66) ∧ Sd w0 w' S V O cap n (.slice aF nF cF) (.slice aT nT cT) r3 r4 l sp → Ka a w' := by
            clear Z u v0 hsd
            rintro a wr ⟨hf, h0, h2, h3, h4, h5, h6, h7, ⟨⟨b, h66, hb1, hb2⟩⟩, hsd⟩
            obtain ⟨u, hu, ha⟩ := frame257 a hf.df hf.sz
            rw [hu] at h0 h2 h3 h4 h5 h6 h7 h66
            subst ha
            clear hf hu
            simp only [h0, h2, h3, h4, h5, h6, h7, h66]
            clear h0 h2 h3 h4 h5 h6 h7 h66
            have v0 : wr.cell? ⟨V, 0, none⟩ = some (.slice (some ⟨O, 0, none⟩) n cap) := hsd.va.cell rfl
            have Z := hide hsd
            refine hKa _ _ ?_
            clear hKa
            cases b
            · have Hpure := hide (hb1 rfl)
              clear hb1 hb2 hsd hqe
              have q0 : wr.cell? ⟨S, 0, none⟩ = some (.slice aF nF cF) := Z.out.st.cell rfl
              have q1 : wr.cell? ⟨S, 1, none⟩ = some (.slice aT nT cT) := Z.out.st.cell rfl
              obtain ⟨aL, nL, cL, L, at', hL⟩ : ∃ (aL : Option Addr) (nL cL : Nat) (L : List ByteArray) (at' : Nat), ((o = 45 ∧ aL = aF ∧ nL = nF ∧ cL = cF ∧ at' = fa) ∨ (o = 43 ∧ aL = aT ∧ nL = nT ∧ cL = cT ∧ at' = ta)) ∧ Side o X Y L fa ta at' ∧ L.length = nL ∧ Rd w0 aL nL (sv L) ∧ nL ≤ 4096 ∧ at' ≤ nL ∧ ∀ i, i < nL → (L.getD i ByteArray.empty).size ≤ 140737488355328 := by
                rcases Ho2.out with h | h
                · exact ⟨aF, nF, cF, X, fa, Or.inl ⟨h, rfl, rfl, rfl, rfl⟩, ⟨Or.inl ⟨h, rfl, rfl⟩⟩, hX, hrF, hnF, hins.1, hsX⟩
                · exact ⟨aT, nT, cT, Y, ta, Or.inr ⟨h, rfl, rfl, rfl, rfl⟩, ⟨Or.inr ⟨h, rfl, rfl⟩⟩, hY, hrT, hnT, hins.2, hsY⟩
              obtain ⟨hLo, hside, hLl, hrL, hnL, hatL, hsL⟩ := hL
              have HLo := hide hLo
              have Hside := hide hside
              have HsL := hide hsL
              clear hLo hside hsL hsX hsY
              go_upto_if 95 with fail
              rename_i Kl hKl
              have hlines : ∀ a w', Fr a 257 ∧ sl a 0 = .pointer (some ⟨S, 0, none⟩) ∧ sl a 2 = .pointer (some ⟨V, 0, none⟩) ∧ sl a 3 = .int .i64 fa ∧ sl a 4 = .int .i64 ta ∧ sl a 5 = .int .i64 p ∧ sl a 6 = .int .u8 o ∧ sl a 7 = .int .i64 q ∧ sl a 8 = .slice aL nL cL ∧ sl a 9 = .int .i64 at' ∧ Sd w0 w' S V O cap n (.slice aF nF cF) (.slice aT nT cT) r3 r4 l sp → Kl a w' := by
                clear Z u v0 q0 q1
                rintro a wr ⟨hf, h0, h2, h3, h4, h5, h6, h7, h8, h9, hsd⟩
                obtain ⟨u, hu, ha⟩ := frame257 a hf.df hf.sz
                rw [hu] at h0 h2 h3 h4 h5 h6 h7 h8 h9
                subst ha
                clear hf hu
                simp only [h0, h2, h3, h4, h5, h6, h7, h8, h9]
                clear h0 h2 h3 h4 h5 h6 h7 h8 h9
                obtain ⟨k, hk⟩ : ∃ k, k = q - p := ⟨_, rfl⟩
                have hk1 : 1 ≤ k := by omega
                have hkn : k ≤ n := by omega
                have Hk := hide hk
                have Hk2 : Hid ((q : Int) - p = k) := by show (q : Int) - p = k; omega
                have Z := hide hsd
                have he0 : p = 0 ∨ l.getD (p - 1) 0 = 32 := Hed.out (by omega) (by rw [← Ho.out]; rcases Ho2.out with h | h <;> rw [h] <;> decide)
                have hat : at' + k ≤ nL := by
                  have := Hside.out.room (by rw [hX, hY]; exact Sv.out) (Nat.le_of_lt hq1) Hrun.out 0 (by omega) (fun j h1 h2 => by omega)
                  omega
                have U0 : Hid (UpAt L l p at' k 0) := ⟨Nat.zero_le _, fun j h1 h2 => by omega, he0, fun j h1 h2 => by omega⟩
                refine hKl _ _ ?_
                clear hKl hsd hk he0
                go_wp2
                rename_i K4 hK4
                have hend4 : ∀ a w', Fr a 257 ∧ sl a 0 = .pointer (some ⟨S, 0, none⟩) ∧ sl a 2 = .pointer (some ⟨V, 0, none⟩) ∧ sl a 3 = .int .i64 fa ∧ sl a 4 = .int .i64 ta ∧ sl a 5 = .int .i64 p ∧ sl a 6 = .int .u8 o ∧ sl a 7 = .int .i64 q ∧ sl a 8 = .slice aL nL cL ∧ sl a 9 = .int .i64 at' ∧ sl a 10 = .int .i64 k ∧ sl a 11 = .func (.func 25) #[] #[.pointer (some ⟨V, 0, none⟩)] ∧ (∃ up : Nat, sl a 12 = .int .i64 up ∧ UpAt L l p at' k up) ∧ Sd w0 w' S V O cap n (.slice aF nF cF) (.slice aT nT cT) r3 r4 l sp → K4 a w' := by
                  clear Z u U0
                  rintro a wr ⟨hf, h0, h2, h3, h4, h5, h6, h7, h8, h9, h10, h11, ⟨up, h12, hup⟩, hsd⟩
                  obtain ⟨u, hu, ha⟩ := frame257 a hf.df hf.sz
                  rw [hu] at h0 h2 h3 h4 h5 h6 h7 h8 h9 h10 h11 h12
                  subst ha
                  clear hf hu
                  simp only [h0, h2, h3, h4, h5, h6, h7, h8, h9, h10, h11, h12]
                  clear h0 h2 h3 h4 h5 h6 h7 h8 h9 h10 h11 h12
                  have Up := hide hup
                  have hupl := hup.le
                  have hupa : up ≤ at' := Hside.out.back (by rw [hX, hY]; exact Sv.out) up hup.le hup.kept
                  have Z := hide hsd
                  have D0 : Hid (DownAt L l n q at' k 0) := ⟨by omega, fun j h1 h2 => by omega, by simpa using Hpure.out, fun j h1 h2 => by omega⟩
                  refine hK4 _ _ ?_
                  clear hK4 hsd hup
                  go_wp2
                  rename_i K5 hK5
                  have hend5 : ∀ a w', Fr a 257 ∧ sl a 0 = .pointer (some ⟨S, 0, none⟩) ∧ sl a 2 = .pointer (some ⟨V, 0, none⟩) ∧ sl a 3 = .int .i64 fa ∧ sl a 4 = .int .i64 ta ∧ sl a 5 = .int .i64 p ∧ sl a 6 = .int .u8 o ∧ sl a 7 = .int .i64 q ∧ sl a 8 = .slice aL nL cL ∧ sl a 9 = .int .i64 at' ∧ sl a 10 = .int .i64 k ∧ sl a 11 = .func (.func 25) #[] #[.pointer (some ⟨V, 0, none⟩)] ∧ sl a 12 = .int .i64 up ∧ (∃ down : Nat, sl a 13 = .int .i64 down ∧ DownAt L l n q at' k down) ∧ Sd w0 w' S V O cap n (.slice aF nF cF) (.slice aT nT cT) r3 r4 l sp → K5 a w' := by
                    clear Z u D0
                    rintro a wr ⟨hf, h0, h2, h3, h4, h5, h6, h7, h8, h9, h10, h11, h12, ⟨down, h13, hdn⟩, hsd⟩
                    obtain ⟨u, hu, ha⟩ := frame257 a hf.df hf.sz
                    rw [hu] at h0 h2 h3 h4 h5 h6 h7 h8 h9 h10 h11 h12 h13
                    subst ha
                    clear hf hu
                    simp only [h0, h2, h3, h4, h5, h6, h7, h8, h9, h10, h11, h12, h13]
                    clear h0 h2 h3 h4 h5 h6 h7 h8 h9 h10 h11 h12 h13
                    have Dn := hide hdn
                    have hdl := hdn.le
                    have hroom : at' + k + down ≤ nL := by
                      have := Hside.out.room (by rw [hX, hY]; exact Sv.out) (Nat.le_of_lt hq1) Hrun.out down hdn.le hdn.kept
                      have := Hk.out
                      omega
                    have Z := hide hsd
                    refine hK5 _ _ ?_
                    clear hK5 hsd hdn
                    go_wp2
                    rename_i K6 hK6
                    have hend6 : ∀ a w', Fr a 257 ∧ sl a 0 = .pointer (some ⟨S, 0, none⟩) ∧ sl a 2 = .pointer (some ⟨V, 0, none⟩) ∧ sl a 3 = .int .i64 fa ∧ sl a 4 = .int .i64 ta ∧ sl a 5 = .int .i64 p ∧ sl a 6 = .int .u8 o ∧ sl a 7 = .int .i64 q ∧ sl a 10 = .int .i64 k ∧ sl a 12 = .int .i64 up ∧ sl a 13 = .int .i64 down ∧ (∃ sh : Int, sl a 14 = .int .i64 sh ∧ -(up : Int) ≤ sh ∧ sh ≤ down) ∧ Sd w0 w' S V O cap n (.slice aF nF cF) (.slice aT nT cT) r3 r4 l sp → K6 a w' := by
                      clear Z u
                      rintro a wr ⟨hf, h0, h2, h3, h4, h5, h6, h7, h10, h12, h13, ⟨sh, h14, hs1, hs2⟩, hsd⟩
                      obtain ⟨u, hu, ha⟩ := frame257 a hf.df hf.sz
                      rw [hu] at h0 h2 h3 h4 h5 h6 h7 h10 h12 h13 h14
                      subst ha
                      clear hf hu
                      simp only [h0, h2, h3, h4, h5, h6, h7, h10, h12, h13, h14]
                      clear h0 h2 h3 h4 h5 h6 h7 h10 h12 h13 h14
                      have Z := hide hsd
                      refine hK6 _ _ ?_
                      clear hK6 hsd
                      go_wp2
                      rename_i K7 hK7
                      have hend7 : ∀ a w', Fr a 257 ∧ sl a 0 = .pointer (some ⟨S, 0, none⟩) ∧ sl a 2 = .pointer (some ⟨V, 0, none⟩) ∧ sl a 3 = .int .i64 fa ∧ sl a 4 = .int .i64 ta ∧ sl a 5 = .int .i64 p ∧ sl a 6 = .int .u8 o ∧ sl a 7 = .int .i64 q ∧ sl a 10 = .int .i64 k ∧ sl a 12 = .int .i64 up ∧ sl a 13 = .int .i64 down ∧ sl a 14 = .int .i64 sh ∧ (∃ l7 : List Int, Fill7 l l7 n p q up down ∧ Sd w0 w' S V O cap n (.slice aF nF cF) (.slice aT nT cT) r3 r4 l7 sp) → K7 a w' := by
                        clear Z u
                        rintro a wr ⟨hf, h0, h2, h3, h4, h5, h6, h7, h10, h12, h13, h14, l7, ⟨hl7, hv7⟩, hsd⟩
                        obtain ⟨u, hu, ha⟩ := frame257 a hf.df hf.sz
                        rw [hu] at h0 h2 h3 h4 h5 h6 h7 h10 h12 h13 h14
                        subst ha
                        clear hf hu
                        simp only [h0, h2, h3, h4, h5, h6, h7, h10, h12, h13, h14]
                        clear h0 h2 h3 h4 h5 h6 h7 h10 h12 h13 h14
                        have Hv7 := hide hv7
                        have Z := hide hsd
                        refine hK7 _ _ ?_
                        clear hK7 hsd hv7
                        go_wp2
                        rename_i K8 hK8
                        have hend8 : ∀ a w', Fr a 257 ∧ sl a 0 = .pointer (some ⟨S, 0, none⟩) ∧ sl a 2 = .pointer (some ⟨V, 0, none⟩) ∧ sl a 3 = .int .i64 fa ∧ sl a 4 = .int .i64 ta ∧ sl a 5 = .int .i64 p ∧ sl a 6 = .int .u8 o ∧ sl a 7 = .int .i64 q ∧ sl a 10 = .int .i64 k ∧ sl a 12 = .int .i64 up ∧ sl a 13 = .int .i64 down ∧ sl a 14 = .int .i64 sh ∧ (∃ l8 : List Int, Fill8 l l8 n p q up down sh o ∧ Sd w0 w' S V O cap n (.slice aF nF cF) (.slice aT nT cT) r3 r4 l8 sp) → K8 a w' := by
                          clear Z u
                          rintro a wr ⟨hf, h0, h2, h3, h4, h5, h6, h7, h10, h12, h13, h14, l8, ⟨hl8, hv8⟩, hsd⟩
                          obtain ⟨u, hu, ha⟩ := frame257 a hf.df hf.sz
                          rw [hu] at h0 h2 h3 h4 h5 h6 h7 h10 h12 h13 h14
                          subst ha
                          clear hf hu
                          simp only [h0, h2, h3, h4, h5, h6, h7, h10, h12, h13, h14]
                          clear h0 h2 h3 h4 h5 h6 h7 h10 h12 h13 h14
                          have mv := moved Hside.out (l := l) (l' := l8) (p := p) (q := q) (up := up) (down := down) (sh := sh) (c := c) (n := n) (by rw [hX, hY]; exact Sv.out) hq1 Dn.out.le Up.out.le Hrun.out Up.out.kept Dn.out.kept Up.out.edge Dn.out.edge hs1 hs2
                            (fun j h1 h2 => by
                              rw [← Hk.out]
                              by_cases e : j < at'
                              · exact Up.out.same j h1 e
                              · exact Dn.out.same j (by omega) h2) hl8 hv8
                          rw [hX, hY, ← Hk.out] at mv
                          have Mv := hide mv
                          have Z := hide hsd
                          refine hK8 _ _ ?_
                          clear hK8 hsd hv8 mv
                          rcases Ho2.out with h45 | h43
                          · subst h45
                            obtain ⟨m1, _, m3, m4⟩ := Mv.out
                            obtain ⟨m1, f0, t0⟩ := m1 rfl
                            have hins2 := m1.inside
                            have Hm1 := hide m1
                            have Hm3 := hide m3
                            have Hm4 := hide m4
                            clear m1 m3 m4
                            go_wp2
                            refine Handed.intro (My.cost (l8.drop ((q : Int) + sh).toNat) * (n + 1) + (n - ((q : Int) + sh).toNat)) (meas Hm4.out (by omega)) (hJ1 _ _ _ ?_)
                            exact ⟨⟨rfl, rfl⟩, rfl, rfl, ((q : Int) + sh).toNat, _, _, l8, congrArg (Value.int .i64) (by omega), congrArg (Value.int .i64) (by omega), congrArg (Value.int .i64) (by omega), rfl, Hm1.out, Hm3.out, Z.out⟩
                          · subst h43
                            obtain ⟨_, m1, m3, m4⟩ := Mv.out
                            obtain ⟨m1, f0, t0⟩ := m1 rfl
                            have hins2 := m1.inside
                            have Hm1 := hide m1
                            have Hm3 := hide m3
                            have Hm4 := hide m4
                            clear m1 m3 m4
                            go_wp2
                            refine Handed.intro (My.cost (l8.drop ((q : Int) + sh).toNat) * (n + 1) + (n - ((q : Int) + sh).toNat)) (meas Hm4.out (by omega)) (hJ1 _ _ _ ?_)
                            exact ⟨⟨rfl, rfl⟩, rfl, rfl, ((q : Int) + sh).toNat, _, _, l8, congrArg (Value.int .i64) (by omega), congrArg (Value.int .i64) (by omega), congrArg (Value.int .i64) (by omega), rfl, Hm1.out, Hm3.out, Z.out⟩
                        clear hK8
                        refine wp_loop_ghost_k (fun g a w' => Fr a 257 ∧ sl a 0 = .pointer (some ⟨S, 0, none⟩) ∧ sl a 2 = .pointer (some ⟨V, 0, none⟩) ∧ sl a 3 = .int .i64 fa ∧ sl a 4 = .int .i64 ta ∧ sl a 5 = .int .i64 p ∧ sl a 6 = .int .u8 o ∧ sl a 7 = .int .i64 q ∧ sl a 10 = .int .i64 k ∧ sl a 12 = .int .i64 up ∧ sl a 13 = .int .i64 down ∧ sl a 14 = .int .i64 sh ∧ (∃ (i : Nat) (l8 : List Int), sl a 17 = .int .i64 i ∧ (p : Int) + sh ≤ i ∧ (i : Int) ≤ q + sh ∧ (g : Int) = q + sh - i ∧ l8.length = n ∧ (∀ j, j < n → l8.getD j 0 = if (p : Int) + sh ≤ j ∧ j < i then o else l7.getD j 0) ∧ Sd w0 w' S V O cap n (.slice aF nF cF) (.slice aT nT cT) r3 r4 l8 sp)) (q - p) ?_ ?_
                        · exact ⟨⟨rfl, rfl⟩, rfl, rfl, rfl, rfl, rfl, rfl, rfl, rfl, rfl, rfl, rfl, ((p : Int) + sh).toNat, l7, congrArg (Value.int .i64) (by omega), by omega, by omega, by omega, hl7, fun j _ => by rw [if_neg (by omega)], Z.out⟩
                        · clear Z u
                          rintro g a wr ⟨hf, h0, h2, h3, h4, h5, h6, h7, h10, h12, h13, h14, i, l8, h17, hi1, hi2, hg, hl8, hv8, hsd⟩ J8 K8' hJ8 hK8'
                          obtain ⟨u, hu, ha⟩ := frame257 a hf.df hf.sz
                          rw [hu] at h0 h2 h3 h4 h5 h6 h7 h10 h12 h13 h14 h17
                          subst ha
                          clear hf hu
                          simp only [h0, h2, h3, h4, h5, h6, h7, h10, h12, h13, h14, h17]
                          clear h0 h2 h3 h4 h5 h6 h7 h10 h12 h13 h14 h17
                          have v0 : wr.cell? ⟨V, 0, none⟩ = some (.slice (some ⟨O, 0, none⟩) n cap) := hsd.va.cell rfl
                          have Hv8 := hide hv8
                          have Z := hide hsd
                          have Hg := hide hg
                          by_cases c1 : (i : Int) < (q : Int) + sh
                          · have g1 := hsd.cell i (by omega)
                            have f1 := hsd.op.frozen i
                            have V8 := hide (hsd.setO i (by omega) o)
                            generalize l8.getD i 0 = old at g1
                            clear hsd hv8 hg
                            go_wp2
                            refine Handed.intro (g - 1) (by have := Hg.out; omega) (hJ8 _ _ _ ?_)
                            refine ⟨⟨rfl, rfl⟩, rfl, rfl, rfl, rfl, rfl, rfl, rfl, rfl, rfl, rfl, rfl, i + 1, l8.set i o, by go_num, by omega, by omega, by have := Hg.out; omega, by simpa using hl8, fun j hj => ?_, V8.out⟩
                            rw [getD_set _ _ _ _ (by omega)]
                            by_cases e : i = j
                            · rw [if_pos e, if_pos (by omega)]
                            · rw [if_neg e, Hv8.out j hj]
                              by_cases e2 : (p : Int) + sh ≤ j ∧ j < i
                              · rw [if_pos e2, if_pos (by omega)]
                              · rw [if_neg e2, if_neg (by omega)]
                          · have ei : (i : Int) = q + sh := by omega
                            have Hi := hide ei
                            clear hsd hv8 ei hg
                            go_wp2
                            refine ⟨⟨rfl, rfl⟩, rfl, rfl, rfl, rfl, rfl, rfl, rfl, rfl, rfl, rfl, rfl, l8, ⟨hl8, fun j hj => ?_⟩, Z.out⟩
                            rw [Hv8.out j hj, Hv7.out j hj]
                            have := Hi.out
                            by_cases e2 : (p : Int) + sh ≤ j ∧ (j : Int) < q + sh
                            · rw [if_pos e2, if_pos (by omega)]
                            · rw [if_neg e2, if_neg (by omega)]
                      clear hK7
                      refine wp_loop_ghost_k (fun g a w' => Fr a 257 ∧ sl a 0 = .pointer (some ⟨S, 0, none⟩) ∧ sl a 2 = .pointer (some ⟨V, 0, none⟩) ∧ sl a 3 = .int .i64 fa ∧ sl a 4 = .int .i64 ta ∧ sl a 5 = .int .i64 p ∧ sl a 6 = .int .u8 o ∧ sl a 7 = .int .i64 q ∧ sl a 10 = .int .i64 k ∧ sl a 12 = .int .i64 up ∧ sl a 13 = .int .i64 down ∧ sl a 14 = .int .i64 sh ∧ (∃ (i : Nat) (l7 : List Int), sl a 16 = .int .i64 i ∧ p - up ≤ i ∧ i ≤ q + down ∧ g = q + down - i ∧ l7.length = n ∧ (∀ j, j < n → l7.getD j 0 = if p - up ≤ j ∧ j < i then 32 else l.getD j 0) ∧ Sd w0 w' S V O cap n (.slice aF nF cF) (.slice aT nT cT) r3 r4 l7 sp)) (q + down - (p - up)) ?_ ?_
                      · exact ⟨⟨rfl, rfl⟩, rfl, rfl, rfl, rfl, rfl, rfl, rfl, rfl, rfl, rfl, rfl, p - up, l, congrArg (Value.int .i64) (by omega), by omega, by omega, rfl, hln, fun j _ => by rw [if_neg (by omega)], Z.out⟩
                      · clear Z u
                        rintro g a wr ⟨hf, h0, h2, h3, h4, h5, h6, h7, h10, h12, h13, h14, i, l7, h16, hi1, hi2, rfl, hl7, hv7, hsd⟩ J7 K7' hJ7 hK7'
                        obtain ⟨u, hu, ha⟩ := frame257 a hf.df hf.sz
                        rw [hu] at h0 h2 h3 h4 h5 h6 h7 h10 h12 h13 h14 h16
                        subst ha
                        clear hf hu
                        simp only [h0, h2, h3, h4, h5, h6, h7, h10, h12, h13, h14, h16]
                        clear h0 h2 h3 h4 h5 h6 h7 h10 h12 h13 h14 h16
                        have v0 : wr.cell? ⟨V, 0, none⟩ = some (.slice (some ⟨O, 0, none⟩) n cap) := hsd.va.cell rfl
                        have Hv7 := hide hv7
                        have Z := hide hsd
                        by_cases c1 : i < q + down
                        · have c1' : (i : Int) < (q : Int) + down := by omega
                          have g1 := hsd.cell i (by omega)
                          have f1 := hsd.op.frozen i
                          have V8 := hide (hsd.setO i (by omega) 32)
                          generalize l7.getD i 0 = old at g1
                          clear hsd hv7
                          go_wp2
                          refine Handed.intro (q + down - (i + 1)) (by omega) (hJ7 _ _ _ ?_)
                          refine ⟨⟨rfl, rfl⟩, rfl, rfl, rfl, rfl, rfl, rfl, rfl, rfl, rfl, rfl, rfl, i + 1, l7.set i 32, by go_num, by omega, by omega, rfl, by simpa using hl7, fun j hj => ?_, V8.out⟩
                          rw [getD_set _ _ _ _ (by omega)]
                          by_cases e : i = j
                          · rw [if_pos e, if_pos (by omega)]
                          · rw [if_neg e, Hv7.out j hj]
                            by_cases e2 : p - up ≤ j ∧ j < i
                            · rw [if_pos e2, if_pos (by omega)]
                            · rw [if_neg e2, if_neg (by omega)]
                        · have c1' : ¬ (i : Int) < (q : Int) + down := by omega
                          have ei : i = q + down := by omega
                          have Hi := hide ei
                          clear hsd hv7 ei
                          go_wp2
                          exact ⟨⟨rfl, rfl⟩, rfl, rfl, rfl, rfl, rfl, rfl, rfl, rfl, rfl, rfl, rfl, l7, ⟨hl7, fun j hj => by rw [Hv7.out j hj, Hi.out]⟩, Z.out⟩
                    clear hK6
                    refine wp_loop_ghost_k (fun g a w' => Fr a 257 ∧ sl a 0 = .pointer (some ⟨S, 0, none⟩) ∧ sl a 2 = .pointer (some ⟨V, 0, none⟩) ∧ sl a 3 = .int .i64 fa ∧ sl a 4 = .int .i64 ta ∧ sl a 5 = .int .i64 p ∧ sl a 6 = .int .u8 o ∧ sl a 7 = .int .i64 q ∧ sl a 8 = .slice aL nL cL ∧ sl a 9 = .int .i64 at' ∧ sl a 10 = .int .i64 k ∧ sl a 11 = .func (.func 25) #[] #[.pointer (some ⟨V, 0, none⟩)] ∧ sl a 12 = .int .i64 up ∧ sl a 13 = .int .i64 down ∧ (∃ sh d : Int, sl a 14 = .int .i64 sh ∧ sl a 15 = .int .i64 d ∧ -(up : Int) ≤ sh ∧ sh ≤ down ∧ -(up : Int) + 1 ≤ d ∧ d ≤ down + 1 ∧ g = ((down : Int) + 1 - d).toNat) ∧ Sd w0 w' S V O cap n (.slice aF nF cF) (.slice aT nT cT) r3 r4 l sp) (((down : Int) + 1 - (-(up : Int) + 1)).toNat) ?_ ?_
                    · exact ⟨⟨rfl, rfl⟩, rfl, rfl, rfl, rfl, rfl, rfl, rfl, rfl, rfl, rfl, rfl, rfl, rfl, ⟨-(up : Int), -(up : Int) + 1, rfl, rfl, by omega, by omega, by omega, by omega, rfl⟩, Z.out⟩
                    · clear Z u
                      rintro g a wr ⟨hf, h0, h2, h3, h4, h5, h6, h7, h8, h9, h10, h11, h12, h13, ⟨sh, d, h14, h15, hs1, hs2, hd1, hd2, rfl⟩, hsd⟩ J6 K6' hJ6 hK6'
                      obtain ⟨u, hu, ha⟩ := frame257 a hf.df hf.sz
                      rw [hu] at h0 h2 h3 h4 h5 h6 h7 h8 h9 h10 h11 h12 h13 h14 h15
                      subst ha
                      clear hf hu
                      simp only [h0, h2, h3, h4, h5, h6, h7, h8, h9, h10, h11, h12, h13, h14, h15]
                      clear h0 h2 h3 h4 h5 h6 h7 h8 h9 h10 h11 h12 h13 h14 h15
                      have rL := hrL.below hsd.below (Nat.le_refl _)
                      have Z := hide hsd
                      by_cases c1 : d ≤ (down : Int)
                      · obtain ⟨b1, o1, rfl, rL'⟩ := rL.at (by omega)
                        have t1 := rL' ((at' : Int) + d).toNat (by omega)
                        have t2 := rL' ((at' : Int) + sh).toNat (by omega)
                        have z1 : ((L.getD ((at' : Int) + d).toNat ByteArray.empty).size : Int) ≤ 140737488355328 := by have := HsL.out ((at' : Int) + d).toNat (by omega); omega
                        have z2 : ((L.getD ((at' : Int) + sh).toNat ByteArray.empty).size : Int) ≤ 140737488355328 := by have := HsL.out ((at' : Int) + sh).toNat (by omega); omega
                        unfold sv at t1 t2
                        have i1 : (0 : Int) ≤ (at' : Int) + d := by omega
                        have i2 : (at' : Int) + d < (nL : Int) := by omega
                        have i3 : (0 : Int) ≤ (at' : Int) + sh := by omega
                        have i4 : (at' : Int) + sh < (nL : Int) := by omega
                        clear hsd rL rL' hrL
                        generalize L.getD ((at' : Int) + d).toNat ByteArray.empty = s1 at t1 z1
                        generalize L.getD ((at' : Int) + sh).toNat ByteArray.empty = s2 at t2 z2
                        by_cases hc : indent s1 ≤ indent s2
                        · go_wp2
                          go_quiet ((go_at_call 26; exact Calls.quiet_of_same (indentation_any _ (by assumption) _)))
                          go_wp2
                          refine Handed.intro (((down : Int) + 1 - (d + 1)).toNat) (by omega) (hJ6 _ _ _ ?_)
                          exact ⟨⟨rfl, rfl⟩, rfl, rfl, rfl, rfl, rfl, rfl, rfl, rfl, rfl, rfl, rfl, rfl, rfl, ⟨d, d + 1, rfl, rfl, by omega, by omega, by omega, by omega, rfl⟩, Z.out.drewN _⟩
                        · go_wp2
                          go_quiet ((go_at_call 26; exact Calls.quiet_of_same (indentation_any _ (by assumption) _)))
                          go_wp2
                          refine Handed.intro (((down : Int) + 1 - (d + 1)).toNat) (by omega) (hJ6 _ _ _ ?_)
                          exact ⟨⟨rfl, rfl⟩, rfl, rfl, rfl, rfl, rfl, rfl, rfl, rfl, rfl, rfl, rfl, rfl, rfl, ⟨sh, d + 1, rfl, rfl, by omega, by omega, by omega, by omega, rfl⟩, Z.out.drewN _⟩
                      · clear hsd rL hrL
                        go_wp2
                        exact ⟨⟨rfl, rfl⟩, rfl, rfl, rfl, rfl, rfl, rfl, rfl, rfl, rfl, rfl, ⟨sh, rfl, by omega, by omega⟩, Z.out⟩
                  clear hK5
                  refine wp_loop_ghost_k (fun g a w' => Fr a 257 ∧ sl a 0 = .pointer (some ⟨S, 0, none⟩) ∧ sl a 2 = .pointer (some ⟨V, 0, none⟩) ∧ sl a 3 = .int .i64 fa ∧ sl a 4 = .int .i64 ta ∧ sl a 5 = .int .i64 p ∧ sl a 6 = .int .u8 o ∧ sl a 7 = .int .i64 q ∧ sl a 8 = .slice aL nL cL ∧ sl a 9 = .int .i64 at' ∧ sl a 10 = .int .i64 k ∧ sl a 11 = .func (.func 25) #[] #[.pointer (some ⟨V, 0, none⟩)] ∧ sl a 12 = .int .i64 up ∧ (∃ down : Nat, sl a 13 = .int .i64 down ∧ g = n - (q + down) ∧ DownAt L l n q at' k down) ∧ Sd w0 w' S V O cap n (.slice aF nF cF) (.slice aT nT cT) r3 r4 l sp) (n - q) ?_ ?_
                  · exact ⟨⟨rfl, rfl⟩, rfl, rfl, rfl, rfl, rfl, rfl, rfl, rfl, rfl, rfl, rfl, rfl, ⟨0, rfl, by omega, D0.out⟩, Z.out⟩
                  · clear Z u D0
                    rintro g a wr ⟨hf, h0, h2, h3, h4, h5, h6, h7, h8, h9, h10, h11, h12, ⟨down, h13, rfl, hdn⟩, hsd⟩ J5 K5' hJ5 hK5'
                    obtain ⟨u, hu, ha⟩ := frame257 a hf.df hf.sz
                    rw [hu] at h0 h2 h3 h4 h5 h6 h7 h8 h9 h10 h11 h12 h13
                    subst ha
                    clear hf hu
                    simp only [h0, h2, h3, h4, h5, h6, h7, h8, h9, h10, h11, h12, h13]
                    clear h0 h2 h3 h4 h5 h6 h7 h8 h9 h10 h11 h12 h13
                    have Dn := hide hdn
                    have hdl := hdn.le
                    have rL := hrL.below hsd.below (Nat.le_refl _)
                    have v0 : wr.cell? ⟨V, 0, none⟩ = some (.slice (some ⟨O, 0, none⟩) n cap) := hsd.va.cell rfl
                    have Z := hide hsd
                    by_cases c1 : q + down < n
                    · have c1' : (q : Int) + down < (n : Int) := by omega
                      have hk1' : l.getD (q + down) 0 = 32 := by rcases hdn.edge with h | h; omega; exact h
                      have hroom : at' + k + (down + 1) ≤ nL := by
                        have := Hside.out.room (by rw [hX, hY]; exact Sv.out) (Nat.le_of_lt hq1) Hrun.out (down + 1) (by omega) (fun j h1 h2 => by
                          by_cases e : j = q + down
                          · rw [e]; exact hk1'
                          · exact hdn.kept j h1 (by omega))
                        have := Hk.out
                        omega
                      have kb1 : keptB l ((q : Int) + down) = true := by
                        rw [show (q : Int) + down = ((q + down : Nat) : Int) by omega, keptB_in (by omega), hk1']; rfl
                      by_cases c2 : keptB l ((q : Int) + down + 1) = true
                      · obtain ⟨b1, o1, rfl, rL'⟩ := rL.at (by omega)
                        have t1 := rL' (at' + down) (by omega)
                        have t2 := rL' (at' + down + k) (by omega)
                        unfold sv at t1 t2
                        by_cases he : ((L.getD (at' + down) ByteArray.empty).toList == (L.getD (at' + down + k) ByteArray.empty).toList) = true
                        · have Dx : Hid (DownAt L l n q at' k (down + 1)) := by
                            refine ⟨by omega, fun j h1 h2 => ?_, ?_, fun j h1 h2 => ?_⟩
                            · by_cases e : j = q + down
                              · rw [e]; exact hk1'
                              · exact hdn.kept j h1 (by omega)
                            · by_cases e : q + (down + 1) = n
                              · exact Or.inl e
                              · refine Or.inr ?_
                                rw [show (q : Int) + down + 1 = ((q + (down + 1) : Nat) : Int) by omega, keptB_in (by omega)] at c2
                                simpa using c2
                            · by_cases e : j = at' + down
                              · rw [e]; exact he
                              · exact hdn.same j h1 (by omega)
                          clear hsd hdn hk1' rL rL' hrL
                          generalize L.getD (at' + down) ByteArray.empty = s1 at t1 he
                          generalize L.getD (at' + down + k) ByteArray.empty = s2 at t2 he
                          go_wp2
                          go_quiet ((go_at_call 25; first | exact Calls.quiet_of_same (keptAt_true _ (by omega) (by omega) V O cap n l sp hln (by omega) (by assumption) _ (Z.out.drewN _).va (Z.out.drewN _).op) | exact Calls.quiet_of_same (keptAt_false _ (by omega) (by omega) V O cap n l sp hln (by omega) (by assumption) _ (Z.out.drewN _).va (Z.out.drewN _).op)))
                          go_wp2
                          refine Handed.intro (n - (q + (down + 1))) (by omega) (hJ5 _ _ _ ?_)
                          exact ⟨⟨rfl, rfl⟩, rfl, rfl, rfl, rfl, rfl, rfl, rfl, rfl, rfl, rfl, rfl, rfl, ⟨down + 1, by go_num, rfl, Dx.out⟩, Z.out.drewN _⟩
                        · have hne : ((L.getD (at' + down) ByteArray.empty).toList == (L.getD (at' + down + k) ByteArray.empty).toList) = false := by simpa using he
                          clear hsd hdn hk1' rL rL' hrL he
                          generalize L.getD (at' + down) ByteArray.empty = s1 at t1 hne
                          generalize L.getD (at' + down + k) ByteArray.empty = s2 at t2 hne
                          go_wp2
                          go_quiet ((go_at_call 25; first | exact Calls.quiet_of_same (keptAt_true _ (by omega) (by omega) V O cap n l sp hln (by omega) (by assumption) _ (Z.out.drewN _).va (Z.out.drewN _).op) | exact Calls.quiet_of_same (keptAt_false _ (by omega) (by omega) V O cap n l sp hln (by omega) (by assumption) _ (Z.out.drewN _).va (Z.out.drewN _).op)))
                          go_wp2
                          exact ⟨⟨rfl, rfl⟩, rfl, rfl, rfl, rfl, rfl, rfl, rfl, rfl, rfl, rfl, rfl, rfl, ⟨down, rfl, Dn.out⟩, Z.out.drewN _⟩
                      · have c2' : keptB l ((q : Int) + down + 1) = false := by simpa using c2
                        clear hsd hdn hk1' rL hrL c2
                        go_wp2
                        go_quiet ((go_at_call 25; first | exact Calls.quiet_of_same (keptAt_true _ (by omega) (by omega) V O cap n l sp hln (by omega) (by assumption) _ (Z.out.drewN _).va (Z.out.drewN _).op) | exact Calls.quiet_of_same (keptAt_false _ (by omega) (by omega) V O cap n l sp hln (by omega) (by assumption) _ (Z.out.drewN _).va (Z.out.drewN _).op)))
                        go_wp2
                        exact ⟨⟨rfl, rfl⟩, rfl, rfl, rfl, rfl, rfl, rfl, rfl, rfl, rfl, rfl, rfl, rfl, ⟨down, rfl, Dn.out⟩, Z.out.drewN _⟩
                    · have c1' : decide ((q : Int) + down < (n : Int)) = false := by simp; omega
                      clear hsd hdn rL hrL
                      go_wp2
                      go_quiet (fail)
                      go_wp2
                      exact ⟨⟨rfl, rfl⟩, rfl, rfl, rfl, rfl, rfl, rfl, rfl, rfl, rfl, rfl, rfl, rfl, ⟨down, rfl, Dn.out⟩, Z.out.drewN _⟩
                clear hK4
                refine wp_loop_ghost_k (fun g a w' => Fr a 257 ∧ sl a 0 = .pointer (some ⟨S, 0, none⟩) ∧ sl a 2 = .pointer (some ⟨V, 0, none⟩) ∧ sl a 3 = .int .i64 fa ∧ sl a 4 = .int .i64 ta ∧ sl a 5 = .int .i64 p ∧ sl a 6 = .int .u8 o ∧ sl a 7 = .int .i64 q ∧ sl a 8 = .slice aL nL cL ∧ sl a 9 = .int .i64 at' ∧ sl a 10 = .int .i64 k ∧ sl a 11 = .func (.func 25) #[] #[.pointer (some ⟨V, 0, none⟩)] ∧ (∃ up : Nat, sl a 12 = .int .i64 up ∧ g = p - up ∧ UpAt L l p at' k up) ∧ Sd w0 w' S V O cap n (.slice aF nF cF) (.slice aT nT cT) r3 r4 l sp) p ?_ ?_
                · exact ⟨⟨rfl, rfl⟩, rfl, rfl, rfl, rfl, rfl, rfl, rfl, rfl, rfl, congrArg (Value.int .i64) Hk2.out, rfl, ⟨0, rfl, by omega, U0.out⟩, Z.out⟩
                · clear Z u U0
                  rintro g a wr ⟨hf, h0, h2, h3, h4, h5, h6, h7, h8, h9, h10, h11, ⟨up, h12, rfl, hup⟩, hsd⟩ J4 K5 hJ4 hK5
                  obtain ⟨u, hu, ha⟩ := frame257 a hf.df hf.sz
                  rw [hu] at h0 h2 h3 h4 h5 h6 h7 h8 h9 h10 h11 h12
                  subst ha
                  clear hf hu
                  simp only [h0, h2, h3, h4, h5, h6, h7, h8, h9, h10, h11, h12]
                  clear h0 h2 h3 h4 h5 h6 h7 h8 h9 h10 h11 h12
                  have Up := hide hup
                  have hupl := hup.le
                  have rL := hrL.below hsd.below (Nat.le_refl _)
                  have Z := hide hsd
                  by_cases c1 : up < p
                  · have c1' : (1 : Int) ≤ (p : Int) - up := by omega
                    have hk1' : l.getD (p - up - 1) 0 = 32 := by rcases hup.edge with h | h; omega; exact h
                    have hback : up + 1 ≤ at' := Hside.out.back (by rw [hX, hY]; exact Sv.out) (up + 1) (by omega) (fun j h1 h2 => by
                      by_cases e : j = p - up - 1
                      · rw [e]; exact hk1'
                      · exact hup.kept j (by omega) h2)
                    have kb1 : keptB l ((p : Int) - up - 1) = true := by
                      rw [show (p : Int) - up - 1 = ((p - up - 1 : Nat) : Int) by omega, keptB_in (by omega), hk1']; rfl
                    by_cases c2 : keptB l ((p : Int) - up - 2) = true
                    · obtain ⟨b1, o1, rfl, rL'⟩ := rL.at (by omega)
                      have t1 := rL' (at' - up - 1) (by omega)
                      have t2 := rL' (at' - up - 1 + k) (by omega)
                      unfold sv at t1 t2
                      by_cases he : ((L.getD (at' - up - 1) ByteArray.empty).toList == (L.getD (at' - up - 1 + k) ByteArray.empty).toList) = true
                      · have Un : Hid (UpAt L l p at' k (up + 1)) := by
                          refine ⟨by omega, fun j h1 h2 => ?_, ?_, fun j h1 h2 => ?_⟩
                          · by_cases e : j = p - up - 1
                            · rw [e]; exact hk1'
                            · exact hup.kept j (by omega) h2
                          · by_cases e : p - (up + 1) = 0
                            · exact Or.inl e
                            · refine Or.inr ?_
                              rw [show (p : Int) - up - 2 = ((p - (up + 1) - 1 : Nat) : Int) by omega, keptB_in (by omega)] at c2
                              simpa using c2
                          · by_cases e : j = at' - up - 1
                            · rw [e]; exact he
                            · exact hup.same j (by omega) h2
                        clear hsd hup hk1' rL rL' hrL
                        generalize L.getD (at' - up - 1) ByteArray.empty = s1 at t1 he
                        generalize L.getD (at' - up - 1 + k) ByteArray.empty = s2 at t2 he
                        go_wp2
                        go_quiet ((go_at_call 25; first | exact Calls.quiet_of_same (keptAt_true _ (by omega) (by omega) V O cap n l sp hln (by omega) (by assumption) _ (Z.out.drewN _).va (Z.out.drewN _).op)))
                        go_wp2
                        refine Handed.intro (p - (up + 1)) (by omega) (hJ4 _ _ _ ?_)
                        exact ⟨⟨rfl, rfl⟩, rfl, rfl, rfl, rfl, rfl, rfl, rfl, rfl, rfl, rfl, rfl, ⟨up + 1, by go_num, rfl, Un.out⟩, Z.out.drewN _⟩
                      · have hne : ((L.getD (at' - up - 1) ByteArray.empty).toList == (L.getD (at' - up - 1 + k) ByteArray.empty).toList) = false := by simpa using he
                        clear hsd hup hk1' rL rL' hrL he
                        generalize L.getD (at' - up - 1) ByteArray.empty = s1 at t1 hne
                        generalize L.getD (at' - up - 1 + k) ByteArray.empty = s2 at t2 hne
                        go_wp2
                        go_quiet ((go_at_call 25; first | exact Calls.quiet_of_same (keptAt_true _ (by omega) (by omega) V O cap n l sp hln (by omega) (by assumption) _ (Z.out.drewN _).va (Z.out.drewN _).op)))
                        go_wp2
                        exact ⟨⟨rfl, rfl⟩, rfl, rfl, rfl, rfl, rfl, rfl, rfl, rfl, rfl, rfl, rfl, ⟨up, rfl, Up.out⟩, Z.out.drewN _⟩
                    · have c2' : keptB l ((p : Int) - up - 2) = false := by simpa using c2
                      clear hsd hup hk1' rL hrL c2
                      go_wp2
                      go_quiet ((go_at_call 25; first | exact Calls.quiet_of_same (keptAt_true _ (by omega) (by omega) V O cap n l sp hln (by omega) (by assumption) _ (Z.out.drewN _).va (Z.out.drewN _).op) | exact Calls.quiet_of_same (keptAt_false _ (by omega) (by omega) V O cap n l sp hln (by omega) (by assumption) _ (Z.out.drewN _).va (Z.out.drewN _).op)))
                      go_wp2
                      exact ⟨⟨rfl, rfl⟩, rfl, rfl, rfl, rfl, rfl, rfl, rfl, rfl, rfl, rfl, rfl, ⟨up, rfl, Up.out⟩, Z.out.drewN _⟩
                  · have c1' : decide ((1 : Int) ≤ (p : Int) - up) = false := by simp; omega
                    clear hsd hup rL hrL
                    go_wp2
                    go_quiet (fail)
                    go_wp2
                    exact ⟨⟨rfl, rfl⟩, rfl, rfl, rfl, rfl, rfl, rfl, rfl, rfl, rfl, rfl, rfl, ⟨up, rfl, Up.out⟩, Z.out.drewN _⟩
              clear hKl
              rcases Ho2.out with h45 | h43
              · subst h45
                rcases HLo.out with ⟨_, rfl, rfl, rfl, rfl⟩ | ⟨h, _⟩
                · clear Hpure
                  go_wp2
                  exact ⟨⟨rfl, rfl⟩, rfl, rfl, rfl, rfl, rfl, rfl, rfl, rfl, rfl, Z.out⟩
                · omega
              · subst h43
                rcases HLo.out with ⟨h, _⟩ | ⟨_, rfl, rfl, rfl, rfl⟩
                · omega
                · clear Hpure
                  go_wp2
                  exact ⟨⟨rfl, rfl⟩, rfl, rfl, rfl, rfl, rfl, rfl, rfl, rfl, rfl, Z.out⟩
            · clear hb1 hb2 hsd hqe
              go_wp2
              refine wp_loop_ghost_k (fun g a w' => Fr a 257 ∧ sl a 0 = .pointer (some ⟨S, 0, none⟩) ∧ sl a 2 = .pointer (some ⟨V, 0, none⟩) ∧ (∃ p' fa' ta' : Nat, sl a 3 = .int .i64 fa' ∧ sl a 4 = .int .i64 ta' ∧ sl a 5 = .int .i64 p' ∧ g = n - p' ∧ My.Sv (Eqs X Y) n nF nT c l p' fa' ta' ∧ (p' = p ∨ My.cost (l.drop p') < My.cost (l.drop p))) ∧ Sd w0 w' S V O cap n (.slice aF nF cF) (.slice aT nT cT) r3 r4 l sp) (n - p) ?_ ?_
              · exact ⟨⟨rfl, rfl⟩, rfl, rfl, ⟨p, fa, ta, rfl, rfl, rfl, rfl, Sv.out, Or.inl rfl⟩, Z.out⟩
              · clear Z u v0
                rintro g a wr ⟨hf, h0, h2, ⟨p', fa', ta', h3, h4, h5, rfl, hsv, hor⟩, hsd⟩ J3 K3 hJ3 hK3
                obtain ⟨u, hu, ha⟩ := frame257 a hf.df hf.sz
                rw [hu] at h0 h2 h3 h4 h5
                subst ha
                clear hf hu
                simp only [h0, h2, h3, h4, h5]
                clear h0 h2 h3 h4 h5
                have v0 : wr.cell? ⟨V, 0, none⟩ = some (.slice (some ⟨O, 0, none⟩) n cap) := hsd.va.cell rfl
                have Z := hide hsd
                have hin2 := hsv.inside
                have hp2 := hsv.pn
                have Sv' := hide hsv
                have hle : My.cost (l.drop p') ≤ My.cost (l.drop p) := by rcases hor with rfl | h <;> omega
                have Hor := hide hor
                clear hor
                by_cases hp' : p' < n
                · have c0 := hsd.cell p' (by omega)
                  rcases hsv.op hp' with ⟨e, _⟩ | ⟨e, _⟩ | ⟨e, _⟩
                  · have Hlt : Hid (My.cost (l.drop p') < My.cost (l.drop p)) := by
                      rcases Hor.out with rfl | h
                      · exfalso; have := Ho.out; rcases Ho2.out with h | h <;> omega
                      · exact h
                    have He : Hid (My.Edge l p') := fun _ h => absurd e h
                    rw [e] at c0
                    clear hsd hsv e hle
                    go_wp2
                    refine Handed.intro (My.cost (l.drop p') * (n + 1) + (n - p')) (meas Hlt.out (by omega)) (hJ1 _ _ _ ?_)
                    exact ⟨⟨rfl, rfl⟩, rfl, rfl, p', fa', ta', l, rfl, rfl, rfl, rfl, Sv'.out, He.out, Z.out⟩
                  · have Hn := hide (hsv.rem hp' e)
                    have Hc := hide (My.cost_drop_lt (l := l) (p := p') (by omega) (by rw [e]; decide))
                    have hle' := hide hle
                    rw [e] at c0
                    clear hsd hsv e hle
                    go_wp2
                    refine Handed.intro (n - (p' + 1)) (by omega) (hJ3 _ _ _ ?_)
                    exact ⟨⟨rfl, rfl⟩, rfl, rfl, ⟨p' + 1, fa' + 1, ta', by go_num, by go_num, by go_num, rfl, Hn.out, Or.inr (Nat.lt_of_lt_of_le Hc.out hle'.out)⟩, Z.out⟩
                  · have Hn := hide (hsv.add hp' e)
                    have Hc := hide (My.cost_drop_lt (l := l) (p := p') (by omega) (by rw [e]; decide))
                    have hle' := hide hle
                    rw [e] at c0
                    clear hsd hsv e hle
                    go_wp2
                    refine Handed.intro (n - (p' + 1)) (by omega) (hJ3 _ _ _ ?_)
                    exact ⟨⟨rfl, rfl⟩, rfl, rfl, ⟨p' + 1, fa', ta' + 1, by go_num, by go_num, by go_num, rfl, Hn.out, Or.inr (Nat.lt_of_lt_of_le Hc.out hle'.out)⟩, Z.out⟩
                · have Hlt : Hid (My.cost (l.drop p') < My.cost (l.drop p)) := by
                    rcases Hor.out with h | h
                    · omega
                    · exact h
                  have He : Hid (My.Edge l p') := fun h _ => absurd h (by omega)
                  clear hsd hsv hle
                  go_wp2
                  refine Handed.intro (My.cost (l.drop p') * (n + 1) + (n - p')) (meas Hlt.out (by omega)) (hJ1 _ _ _ ?_)
                  exact ⟨⟨rfl, rfl⟩, rfl, rfl, p', fa', ta', l, rfl, rfl, rfl, rfl, Sv'.out, He.out, Z.out⟩
          clear hKa
          by_cases hqn : q < n
          · have c0 := hsd.cell q (by omega)
            by_cases he : l.getD q 0 = 32
            · have M : Hid (Mix l n q (.bool false)) := ⟨⟨false, rfl, fun _ => Or.inr he, (fun h => by cases h)⟩⟩
              rw [he] at c0
              clear hsd he hqe
              go_wp2
              exact ⟨⟨rfl, rfl⟩, rfl, rfl, rfl, rfl, rfl, rfl, rfl, M.out, Z.out⟩
            · have M : Hid (Mix l n q (.bool true)) := ⟨⟨true, rfl, (fun h => by cases h), fun _ => ⟨hqn, he⟩⟩⟩
              have bo : (l.getD q 0 != 32) = true := by simpa using he
              clear hsd he hqe
              generalize l.getD q 0 = o' at c0 bo
              go_wp2
              exact ⟨⟨rfl, rfl⟩, rfl, rfl, rfl, rfl, rfl, rfl, rfl, M.out, Z.out⟩
          · have M : Hid (Mix l n q (.bool false)) := ⟨⟨false, rfl, fun _ => Or.inl (by omega), (fun h => by cases h)⟩⟩
            clear hsd hqe
            go_wp2
            exact ⟨⟨rfl, rfl⟩, rfl, rfl, rfl, rfl, rfl, rfl, rfl, M.out, Z.out⟩
        clear hKq
        refine wp_loop_ghost_k (fun g a w' => Fr a 257 ∧ sl a 0 = .pointer (some ⟨S, 0, none⟩) ∧ sl a 2 = .pointer (some ⟨V, 0, none⟩) ∧ sl a 3 = .int .i64 fa ∧ sl a 4 = .int .i64 ta ∧ sl a 5 = .int .i64 p ∧ sl a 6 = .int .u8 o ∧ (∃ q : Nat, sl a 7 = .int .i64 q ∧ p ≤ q ∧ q ≤ n ∧ g = n - q ∧ ∀ j, p ≤ j → j < q → l.getD j 0 = o) ∧ Sd w0 w' S V O cap n (.slice aF nF cF) (.slice aT nT cT) r3 r4 l sp) (n - p) ?_ ?_
        · exact ⟨⟨rfl, rfl⟩, rfl, rfl, rfl, rfl, rfl, rfl, ⟨p, rfl, by omega, by omega, rfl, fun j h1 h2 => by omega⟩, Z.out⟩
        · clear Z u c0 v0
          rintro g a wr ⟨hf, h0, h2, h3, h4, h5, h6, ⟨q, h7, hq1, hq2, rfl, hrun⟩, hsd⟩ J2 K2 hJ2 hK2
          obtain ⟨u, hu, ha⟩ := frame257 a hf.df hf.sz
          rw [hu] at h0 h2 h3 h4 h5 h6 h7
          subst ha
          clear hf hu
          simp only [h0, h2, h3, h4, h5, h6, h7]
          clear h0 h2 h3 h4 h5 h6 h7
          have v0 : wr.cell? ⟨V, 0, none⟩ = some (.slice (some ⟨O, 0, none⟩) n cap) := hsd.va.cell rfl
          have Z := hide hsd
          have Hrun := hide hrun
          by_cases hqn : q < n
          · have c0 := hsd.cell q (by omega)
            by_cases he : l.getD q 0 = o
            · have He := hide he
              rw [he] at c0
              clear hsd hrun he
              go_wp2
              refine Handed.intro (n - (q + 1)) (by omega) (hJ2 _ _ _ ?_)
              refine ⟨⟨rfl, rfl⟩, rfl, rfl, rfl, rfl, rfl, rfl, ⟨q + 1, by go_num, by omega, by omega, rfl, fun j h1 h2 => ?_⟩, Z.out⟩
              by_cases hj : j < q
              · exact Hrun.out j h1 hj
              · rw [show j = q by omega]; exact He.out
            · have hpq : p < q := by
                by_cases h : p = q
                · subst h; exact absurd Ho.out.symm he
                · omega
              have bo : (l.getD q 0 == o) = false := by simpa using he
              have He := hide he
              clear hsd hrun he
              generalize l.getD q 0 = o' at c0 bo
              go_wp2
              exact ⟨⟨rfl, rfl⟩, rfl, rfl, rfl, rfl, rfl, rfl, ⟨⟨q, rfl, hpq, hq2, Hrun.out, Or.inr He.out⟩⟩, Z.out⟩
          · clear hsd hrun
            go_wp2
            exact ⟨⟨rfl, rfl⟩, rfl, rfl, rfl, rfl, rfl, rfl, ⟨⟨q, rfl, by omega, hq2, Hrun.out, Or.inl (by omega)⟩⟩, Z.out⟩
    · obtain rfl : p = n := by omega
      clear hedge
      go_wp2
      go_end0
      refine ⟨rfl, l, Z.out.st, Z.out.op, ?_, Sv.out.canon, Sv.out.kept, hln, Z.out.below⟩
      have h1 := Sv.out.head
      have h2 := Sv.out.tail
      rw [List.drop_of_length_le (by omega)] at h2
      simp only [My.Vs] at h2
      rw [List.take_of_length_le (by omega), h2.1, h2.2] at h1
      exact h1

end Go.Proofs.Qxb6606138aDoor
