/-
  Seat b6606413aF: checkPart: why a part cannot be read.
-/
import Derived.Test.Qxb6606413aFmtW3
import Derived.Test.Qxb6606413aFmtPlain
import Derived.Shelf.Unicode.PredsPay
import Derived.Lib.OthersKept
namespace Go.Proofs.Qxb6606413aFmt
open Go.RowKit Go.Lib
open Go.Extern.Stop Go.Stop Go.Extern

/-- The library's tables lie where the program looks for them. -/
structure Tabs (w : World) : Prop where
  utf : Lib.Utf8Tabs 2 3 w
  white : Lib.WhiteTab 4 w
  prop : Lib.TabIs Tryf.prog w "unicode.properties" .u8 Lib.propertiesTab
  cf : RVar 1 cfTab w

theorem Tabs.below {w w' : World} (h : Tabs w) (hb : Below w.heap.size w w') : Tabs w' :=
  ⟨Utf8Tabs_below h.utf hb, WhiteTab_below h.white hb, TabIs_below (g := 5) (by kernel_rfl) h.prop hb, RVar_below h.cf hb⟩

theorem cfOk : RTabOk cfTab := RTabOk_of_B (by kernel_rfl)

theorem bad_ascii (fm : Bool) (r : Int) (h0 : 0 ≤ r) (h1 : r < 128) (h : bad fm r = true) : asciiBad r := by
  have key : ∀ (fm : Bool) (k : Fin 128), bad fm (k.val : Int) = true → (k.val = 58 ∨ k.val = 35 ∨ k.val = 42 ∨ k.val = 32 ∨ k.val < 32 ∨ k.val = 127) := by decide +kernel
  obtain ⟨k, rfl⟩ := Int.eq_ofNat_of_zero_le h0
  have := key fm ⟨k, by omega⟩ h
  unfold asciiBad
  simp at this
  omega

theorem named_any (F : Interp) (fm : Bool) (r : Int) (w : World) (hF : F.told.answers w.tape) (h0 : 0 ≤ r) (hr1 : r ≤ 2147483647) (h : bad fm r = true) :
    Calls Tryf.prog 30 #[.int .i32 r] w fun e w' => Txt e ∧ Below w.heap.size w w' := by
  by_cases h1 : r < 128
  · exact named_low r w (bad_ascii fm r h0 h1 h)
  · exact named_high F r w hF (by omega) hr1

/-- The part can be read. -/
def partOK (fm wild : Bool) (l : List UInt8) : Bool := !l.isEmpty && validD l && ((wild && l == [42]) || okGo fm l.length l)

/-- The call has returned a text; it is empty just where b is true. -/
def Part (b : Bool) (e : Ending) : Prop := ∃ t : ByteArray, e = .returned (.string t) ∧ t.toList.isEmpty = b


theorem okGo_step (fm : Bool) (n : Nat) (s : ByteArray) (pos : Nat) (h : pos < s.size) :
    okGo fm (n + 1) (s.data.toList.drop pos) = (!bad fm (Utf8.decode s pos).1 && okGo fm n (s.data.toList.drop (pos + (Utf8.decode s pos).2))) := by
  have hne : s.data.toList.drop pos ≠ [] := by
    intro e
    have := congrArg List.length e
    rw [List.length_drop, ← Lib.size_eq] at this
    simp at this
    omega
  rw [okGo, if_neg hne, Lib.decodeL_drop, List.drop_drop]

theorem okGo_end (fm : Bool) (n : Nat) (s : ByteArray) (pos : Nat) (h : ¬ pos < s.size) : okGo fm n (s.data.toList.drop pos) = true := by
  have : s.data.toList.drop pos = [] := by
    apply List.drop_eq_nil_of_le
    rw [← Lib.size_eq]
    omega
  rw [this, okGo_nil]

/-- A fact that the walk does not look into. -/
def Hid (p : Prop) : Prop := p
theorem hide {p : Prop} (h : p) : Hid p := h
theorem Hid.out {p : Prop} (h : Hid p) : p := h

theorem bstep {w a b : World} (h : Below w.heap.size w a) (k : Below a.heap.size a b) : Below w.heap.size w b := h.trans (k.mono h.size)

/-- The round's world: the text's iterator, the reader's box; what was there before. -/
structure At (w wr : World) (K : Nat) (s : ByteArray) (fm : Bool) (pos fuel : Nat) : Prop where
  it : wr.heap[K]? = some (.stringIter s pos)
  bel : Below w.heap.size w wr
  box : wr.cell? ⟨w.heap.size, 0, none⟩ = some (.bool fm)
  lt : w.heap.size < K
  ok : okGo fm s.size s.data.toList = okGo fm fuel (s.data.toList.drop pos)
  fu : s.size ≤ pos + fuel

theorem At.step {w wr : World} {K : Nat} {s : ByteArray} {fm : Bool} {pos fuel : Nat} (h : At w wr K s fm pos fuel) (hp : pos < s.size) :
    ∃ f, fuel = f + 1 ∧ okGo fm s.size s.data.toList = (!bad fm (Utf8.decode s pos).1 && okGo fm f (s.data.toList.drop (pos + (Utf8.decode s pos).2))) := by
  obtain ⟨f, hf⟩ : ∃ f, fuel = f + 1 := ⟨fuel - 1, by have := h.fu; omega⟩
  refine ⟨f, hf, ?_⟩
  rw [h.ok, hf, okGo_step fm f s pos hp]

theorem At.next {w wr wn : World} {K : Nat} {s : ByteArray} {fm : Bool} {pos f : Nat} (h : At w wr K s fm pos (f + 1)) (hw : 1 ≤ (Utf8.decode s pos).2)
    (hok : okGo fm s.size s.data.toList = okGo fm f (s.data.toList.drop (pos + (Utf8.decode s pos).2)))
    (hb : Below (wr.iterAt K s (pos + (Utf8.decode s pos).2)).heap.size (wr.iterAt K s (pos + (Utf8.decode s pos).2)) wn) : At w wn K s fm (pos + (Utf8.decode s pos).2) f := by
  have hlt := (Array.getElem?_eq_some_iff.1 h.it).1
  have hb1 := Lib.below_iterAt h.bel (k := K) (by have := h.lt; omega) s (pos + (Utf8.decode s pos).2)
  have hsz := Lib.iterAt_size wr K s (pos + (Utf8.decode s pos).2)
  refine ⟨?_, bstep hb1 hb, ?_, h.lt, hok, by have := h.fu; omega⟩
  · rw [hb.block K (by omega)]
    exact Lib.iterAt_heap wr K s pos _ h.it
  · rw [hb.cell (by have := h.lt; simp; omega)]
    have hne : w.heap.size ≠ K := by have := h.lt; omega
    have := h.box
    unfold World.cell? at this ⊢
    simpa [Lib.iterAt_other wr K w.heap.size s _ hne] using this

theorem At.pos {w wr : World} {K : Nat} {s : ByteArray} {fm : Bool} {pos fuel : Nat} (h : At w wr K s fm pos fuel) : wr.iterPos K = pos := by
  simp only [World.iterPos, h.it]

theorem At.cell {w wr : World} {K : Nat} {s : ByteArray} {fm : Bool} {pos fuel q : Nat} (h : At w wr K s fm pos fuel) : (wr.iterAt K s q).cell? ⟨w.heap.size, 0, none⟩ = some (.bool fm) := by
  have hne : w.heap.size ≠ K := by have := h.lt; omega
  have := h.box
  unfold World.cell? at this ⊢
  simpa [Lib.iterAt_other wr K w.heap.size s _ hne] using this

theorem empty_toList (s : ByteArray) : s.toList = s.data.toList := Go.ByteArray.toList_eq s

theorem app_part (a b : ByteArray) (h : 0 < a.size ∨ 0 < b.size) : (a ++ b).toList.isEmpty = false := by
  rw [empty_toList, ByteArray.data_append, Array.toList_append]
  rw [Lib.size_eq, Lib.size_eq] at h
  cases ha : a.data.toList with
  | cons x l => simp
  | nil =>
    cases hb : b.data.toList with
    | cons x l => simp
    | nil => rw [ha, hb] at h; simp at h

set_option maxHeartbeats 3200000 in
set_option maxRecDepth 100000 in
theorem checkPart (F : Interp) (fm wild : Bool) (p s : ByteArray) (w : World) (hF : F.told.answers w.tape) (hT : Tabs w) (hp : p.size ≤ 1000000000) (hs : s.size ≤ 1000000000) :
    Calls Tryf.prog 20 #[.agg #[.bool fm], .string p, .string s, .bool wild] w fun e w' => Part (partOK fm wild s.data.toList) e ∧ Below w.heap.size w w' := by
  have cV : ∀ w1, Below w.heap.size w w1 → Calls Tryf.prog 26 #[.string s] w1 fun e w' => e = .returned (.bool (Lib.validD s.data.toList)) ∧ Below w1.heap.size w1 w' := fun w1 hb => Tryf.utf8_ValidString s w1 (by omega) (hT.below hb).utf
  have hb0 : Below w.heap.size w (w.alloc (.cells #[.bool fm] 42)) := (Below.refl _ w).alloc (Nat.le_refl _) _
  cases hE : s.data.toList.isEmpty with
  | true =>
    have hok : partOK fm wild s.data.toList = false := by simp [partOK, hE]
    rw [hok]
    rw [← empty_toList] at hE
    go_enter Tryf.func20, Tryf.ntmps20
    go_wp2
    go_ret
    exact ⟨⟨_, rfl, app_part _ _ (.inl (by decide))⟩, hb0⟩
  | false =>
    cases hV : Lib.validD s.data.toList with
    | false =>
      have hok : partOK fm wild s.data.toList = false := by simp [partOK, hV]
      rw [hok]
      rw [hV] at cV
      rw [← empty_toList] at hE
      go_enter Tryf.func20, Tryf.ntmps20
      go_wp2_with (go_at_call 26; refine (cV _ hb0).mono ?_; rintro e w1 ⟨rfl, hb1⟩)
      go_ret
      exact ⟨⟨_, rfl, app_part _ _ (.inr (by decide))⟩, bstep hb0 hb1⟩
    | true =>
      rw [hV] at cV
      have hE2 : s.toList.isEmpty = false := by rw [empty_toList]; exact hE
      by_cases hst : (s.toList == [42]) = true ∧ wild = true
      · obtain ⟨h1, h2⟩ := hst
        subst h2
        have hok : partOK fm true s.data.toList = true := by
          rw [empty_toList] at h1
          simp only [partOK, hE, hV, h1]; rfl
        rw [hok]
        go_enter Tryf.func20, Tryf.ntmps20
        go_wp2_with (go_at_call 26; refine (cV _ hb0).mono ?_; rintro e w1 ⟨rfl, hb1⟩)
        go_ret
        exact ⟨⟨_, rfl, by rw [empty_toList]; rfl⟩, bstep hb0 hb1⟩
      · have hok : partOK fm wild s.data.toList = okGo fm s.size s.data.toList := by
          rw [empty_toList] at hst
          have : (wild && s.data.toList == [42]) = false := by
            cases wild with
            | false => rfl
            | true =>
              simp at hst
              simpa using hst
          simp only [partOK, hE, hV, this, Lib.size_eq]
          simp
        rw [hok]
        obtain ⟨Tb, oT, hcf, hcA⟩ := hT.cf
        have hst2 : (s.toList == [42]) = false ∨ ((s.toList == [42]) = true ∧ wild = false) := by
          cases h1 : (s.toList == [42]) with
          | false => exact .inl rfl
          | true =>
            cases wild with
            | false => exact .inr ⟨rfl, rfl⟩
            | true => exact absurd ⟨h1, rfl⟩ hst
        clear hst hok hE hV
        rcases hst2 with hst2 | ⟨hst2, rfl⟩
        all_goals (
          go_enter Tryf.func20, Tryf.ntmps20
          go_wp2_with (go_at_call 26; refine (cV _ hb0).mono ?_; rintro e w1 ⟨rfl, hb1⟩)
          have hK : w.heap.size < w1.heap.size := by
            have := hb1.size
            simp at this
            omega
          have hbox1 : w1.cell? ⟨w.heap.size, 0, none⟩ = some (.bool fm) := by
            rw [hb1.cell (by simp)]
            simp
          have hbw1 := bstep hb0 hb1
          go_loopw [10] (fun _ wr => ∃ pos fuel : Nat, At w wr w1.heap.size s fm pos fuel) (fun _ wr => s.size - wr.iterPos w1.heap.size)
          case atStart =>
            refine ⟨0, s.size, ?_, ?_, ?_, hK, by simp, by omega⟩
            · exact World.iter_heap w1 s 0
            · exact hbw1.alloc hbw1.size (.stringIter s 0)
            · have hbi : Below w1.heap.size w1 (w1.iter s 0) := (Below.refl _ w1).alloc (Nat.le_refl _) (.stringIter s 0)
              rw [hbi.cell hK]
              exact hbox1
          case round =>
            obtain ⟨pos, fuel, hA⟩ := hrel
            have hit := hA.it
            have hbx := hA.box
            by_cases hpos : pos < s.size
            · have hnx : ∀ ty, (Instr.next (.pointer (some ⟨w1.heap.size, 0, none⟩)) true ty).run Tryf.prog wr = _ := fun ty => Lib.run_next_any_at wr w1.heap.size s pos ty hit hpos
              obtain ⟨f, rfl, hok⟩ := hA.step hpos
              have hwd := Lib.width_pos s pos
              have hrl := Lib.rune_le s pos
              have hB := Lib.below_iterAt hA.bel (k := w1.heap.size) (by omega) s (pos + (Utf8.decode s pos).2)
              have hbx2 := hA.cell (q := pos + (Utf8.decode s pos).2)
              have hnext := fun wn h1 h2 => hA.next (wn := wn) hwd h1 h2
              have hmz := hA.pos
              have hqp : pos < pos + (Utf8.decode s pos).2 := by omega
              generalize (Utf8.decode s pos).1 = r at *
              generalize pos + (Utf8.decode s pos).2 = q at *
              generalize wr.iterAt w1.heap.size s q = wi at *
              have cS : ∀ wn, Below w.heap.size w wn → Calls Tryf.prog 27 #[.int .i32 (r : Int)] wn fun e w' => e = .returned (.bool (isSpaceZ r)) ∧ Below wn.heap.size wn w' := fun wn h => Tryf.unicode_IsSpace_any r wn (by omega) (by omega) (hT.below h).white
              have cC : ∀ wn, Below w.heap.size w wn → Calls Tryf.prog 28 #[.int .i32 (r : Int)] wn fun e w' => e = .returned (.bool (isControlU r)) ∧ Below wn.heap.size wn w' := fun wn h => Tryf.unicode_IsControl_all r wn (by omega) (by omega) (hT.below h).prop
              have cF : ∀ wn, Below w.heap.size w wn → Calls Tryf.prog 29 #[.pointer (some ⟨Tb, oT, none⟩), .int .i32 (r : Int)] wn fun e w' => e = .returned (.bool (isGo cfTab r)) ∧ Below wn.heap.size wn w' := fun wn h => Tryf.unicode_Is_any Tb oT cfTab r wn (by omega) (by omega) (RTabAt_below hcA h) cfOk
              have cN : bad fm r = true → ∀ wn, Below w.heap.size w wn → Calls Tryf.prog 30 #[.int .i32 (r : Int)] wn fun e w' => Txt e ∧ Below wn.heap.size wn w' := fun hb wn h => named_any F fm r wn (by rw [h.tape]; exact hF) (by omega) (by omega) hb
              have hcfw : ∀ wn, Below w.heap.size w wn → wn.cell? ⟨1, 0, none⟩ = some (.pointer (some ⟨Tb, oT, none⟩)) := fun wn h => cell_below h hcf
              have hcl : ∀ wn, Below wi.heap.size wi wn → wn.cell? ⟨w.heap.size, 0, none⟩ = some (.bool fm) := fun wn h => cell_below h hbx2
              have hbadv : bad fm r = (((r : Int) == 58) || ((r : Int) == 35) || ((r : Int) == 42) || isSpaceZ r || isControlU r || (!fm && isGo cfTab r)) := rfl
              generalize isSpaceZ r = sp at *
              generalize isControlU r = ct at *
              generalize isGo cfTab r = cf at *
              generalize bad fm r = bd at *
              have HC := hide hcfw
              have HL := hide hcl
              clear hcfw hcl hcf hcA hit hbx
              cases e1 : ((r : Int) == 58) with
              | true =>
                have hbd : bd = true := by rw [hbadv]; simp [e1]
                clear hbadv
                subst hbd
                have cN1 := cN rfl
                clear cN
                go_wp2_with (first
                  | (go_at_call 27; refine (cS _ hB).mono ?_; rintro e w2 ⟨rfl, hb2⟩; have hB2 := bstep hB hb2)
                  | (go_at_call 28; refine (cC _ hB2).mono ?_; rintro e w3 ⟨rfl, hb3⟩; have hB3 := bstep hB2 hb3; have hL3 := bstep hb2 hb3; have hx3 := HL.out _ hL3; have hc3 := HC.out _ hB3)
                  | (go_at_call 29; refine (cF _ hB3).mono ?_; rintro e w4 ⟨rfl, hb4⟩; have hB4 := bstep hB3 hb4; have hL4 := bstep hL3 hb4)
                  | (go_at_call 30; refine (cN1 _ (by first | exact hB)).mono ?_; rintro e w5 ⟨⟨t5, rfl, ht5⟩, hb5⟩))
                go_ret
                refine ⟨⟨_, rfl, ?_⟩, bstep hB hb5⟩
                rw [hok]
                exact app_part _ _ (.inl (by rw [ByteArray.size_append]; exact Nat.lt_of_lt_of_le (by decide) (Nat.le_add_left _ _)))
              | false =>
                cases e2 : ((r : Int) == 35) with
                | true =>
                  have hbd : bd = true := by rw [hbadv]; simp [e1, e2]
                  clear hbadv
                  subst hbd
                  have cN1 := cN rfl
                  clear cN
                  go_wp2_with (first
                    | (go_at_call 27; refine (cS _ hB).mono ?_; rintro e w2 ⟨rfl, hb2⟩; have hB2 := bstep hB hb2)
                    | (go_at_call 28; refine (cC _ hB2).mono ?_; rintro e w3 ⟨rfl, hb3⟩; have hB3 := bstep hB2 hb3; have hL3 := bstep hb2 hb3; have hx3 := HL.out _ hL3; have hc3 := HC.out _ hB3)
                    | (go_at_call 29; refine (cF _ hB3).mono ?_; rintro e w4 ⟨rfl, hb4⟩; have hB4 := bstep hB3 hb4; have hL4 := bstep hL3 hb4)
                    | (go_at_call 30; refine (cN1 _ (by first | exact hB)).mono ?_; rintro e w5 ⟨⟨t5, rfl, ht5⟩, hb5⟩))
                  go_ret
                  refine ⟨⟨_, rfl, ?_⟩, bstep hB hb5⟩
                  rw [hok]
                  exact app_part _ _ (.inl (by rw [ByteArray.size_append]; exact Nat.lt_of_lt_of_le (by decide) (Nat.le_add_left _ _)))
                | false =>
                  cases e3 : ((r : Int) == 42) with
                  | true =>
                    have hbd : bd = true := by rw [hbadv]; simp [e1, e2, e3]
                    clear hbadv
                    subst hbd
                    have cN1 := cN rfl
                    clear cN
                    go_wp2_with (first
                      | (go_at_call 27; refine (cS _ hB).mono ?_; rintro e w2 ⟨rfl, hb2⟩; have hB2 := bstep hB hb2)
                      | (go_at_call 28; refine (cC _ hB2).mono ?_; rintro e w3 ⟨rfl, hb3⟩; have hB3 := bstep hB2 hb3; have hL3 := bstep hb2 hb3; have hx3 := HL.out _ hL3; have hc3 := HC.out _ hB3)
                      | (go_at_call 29; refine (cF _ hB3).mono ?_; rintro e w4 ⟨rfl, hb4⟩; have hB4 := bstep hB3 hb4; have hL4 := bstep hL3 hb4)
                      | (go_at_call 30; refine (cN1 _ (by first | exact hB)).mono ?_; rintro e w5 ⟨⟨t5, rfl, ht5⟩, hb5⟩))
                    go_ret
                    refine ⟨⟨_, rfl, ?_⟩, bstep hB hb5⟩
                    rw [hok]
                    exact app_part _ _ (.inl (by rw [ByteArray.size_append]; exact Nat.lt_of_lt_of_le (by decide) (Nat.le_add_left _ _)))
                  | false =>
                    cases sp with
                    | true =>
                      have hbd : bd = true := by rw [hbadv]; simp [e1, e2, e3]
                      clear hbadv
                      subst hbd
                      have cN1 := cN rfl
                      clear cN
                      go_wp2_with (first
                        | (go_at_call 27; refine (cS _ hB).mono ?_; rintro e w2 ⟨rfl, hb2⟩; have hB2 := bstep hB hb2)
                        | (go_at_call 28; refine (cC _ hB2).mono ?_; rintro e w3 ⟨rfl, hb3⟩; have hB3 := bstep hB2 hb3; have hL3 := bstep hb2 hb3; have hx3 := HL.out _ hL3; have hc3 := HC.out _ hB3)
                        | (go_at_call 29; refine (cF _ hB3).mono ?_; rintro e w4 ⟨rfl, hb4⟩; have hB4 := bstep hB3 hb4; have hL4 := bstep hL3 hb4)
                        | (go_at_call 30; refine (cN1 _ (by first | exact hB2)).mono ?_; rintro e w5 ⟨⟨t5, rfl, ht5⟩, hb5⟩))
                      go_ret
                      refine ⟨⟨_, rfl, ?_⟩, bstep hB2 hb5⟩
                      rw [hok]
                      exact app_part _ _ (.inl (by rw [ByteArray.size_append]; exact Nat.lt_of_lt_of_le (by decide) (Nat.le_add_left _ _)))
                    | false =>
                      cases ct with
                      | true =>
                        have hbd : bd = true := by rw [hbadv]; simp [e1, e2, e3]
                        clear hbadv
                        subst hbd
                        have cN1 := cN rfl
                        clear cN
                        go_wp2_with (first
                          | (go_at_call 27; refine (cS _ hB).mono ?_; rintro e w2 ⟨rfl, hb2⟩; have hB2 := bstep hB hb2)
                          | (go_at_call 28; refine (cC _ hB2).mono ?_; rintro e w3 ⟨rfl, hb3⟩; have hB3 := bstep hB2 hb3; have hL3 := bstep hb2 hb3; have hx3 := HL.out _ hL3; have hc3 := HC.out _ hB3)
                          | (go_at_call 29; refine (cF _ hB3).mono ?_; rintro e w4 ⟨rfl, hb4⟩; have hB4 := bstep hB3 hb4; have hL4 := bstep hL3 hb4)
                          | (go_at_call 30; refine (cN1 _ (by first | exact hB3)).mono ?_; rintro e w5 ⟨⟨t5, rfl, ht5⟩, hb5⟩))
                        go_ret
                        refine ⟨⟨_, rfl, ?_⟩, bstep hB3 hb5⟩
                        rw [hok]
                        exact app_part _ _ (.inl (by rw [ByteArray.size_append]; exact Nat.lt_of_lt_of_le (by decide) (Nat.le_add_left _ _)))
                      | false =>
                        cases fm with
                        | true =>
                          have hbd : bd = false := by rw [hbadv]; simp [e1, e2, e3]
                          clear hbadv
                          subst hbd
                          go_wp2_with (first
                            | (go_at_call 27; refine (cS _ hB).mono ?_; rintro e w2 ⟨rfl, hb2⟩; have hB2 := bstep hB hb2)
                            | (go_at_call 28; refine (cC _ hB2).mono ?_; rintro e w3 ⟨rfl, hb3⟩; have hB3 := bstep hB2 hb3; have hL3 := bstep hb2 hb3; have hx3 := HL.out _ hL3; have hc3 := HC.out _ hB3)
                            | (go_at_call 29; refine (cF _ hB3).mono ?_; rintro e w4 ⟨rfl, hb4⟩; have hB4 := bstep hB3 hb4; have hL4 := bstep hL3 hb4))
                          go_roundw
                          case rel => exact ⟨q, f, hnext _ (by rw [hok]; rfl) hL3⟩
                          case measure =>
                            have h1 := (hnext _ (by rw [hok]; rfl) hL3).pos
                            rw [h1, hmz]
                            omega
                        | false =>
                          cases cf with
                          | true =>
                            have hbd : bd = true := by rw [hbadv]; simp [e1, e2, e3]
                            clear hbadv
                            subst hbd
                            have cN1 := cN rfl
                            clear cN
                            go_wp2_with (first
                              | (go_at_call 27; refine (cS _ hB).mono ?_; rintro e w2 ⟨rfl, hb2⟩; have hB2 := bstep hB hb2)
                              | (go_at_call 28; refine (cC _ hB2).mono ?_; rintro e w3 ⟨rfl, hb3⟩; have hB3 := bstep hB2 hb3; have hL3 := bstep hb2 hb3; have hx3 := HL.out _ hL3; have hc3 := HC.out _ hB3)
                              | (go_at_call 29; refine (cF _ hB3).mono ?_; rintro e w4 ⟨rfl, hb4⟩; have hB4 := bstep hB3 hb4; have hL4 := bstep hL3 hb4)
                              | (go_at_call 30; refine (cN1 _ (by first | exact hB4)).mono ?_; rintro e w5 ⟨⟨t5, rfl, ht5⟩, hb5⟩))
                            go_ret
                            refine ⟨⟨_, rfl, ?_⟩, bstep hB4 hb5⟩
                            rw [hok]
                            exact app_part _ _ (.inl (by rw [ByteArray.size_append]; exact Nat.lt_of_lt_of_le (by decide) (Nat.le_add_left _ _)))
                          | false =>
                            have hbd : bd = false := by rw [hbadv]; simp [e1, e2, e3]
                            clear hbadv
                            subst hbd
                            go_wp2_with (first
                              | (go_at_call 27; refine (cS _ hB).mono ?_; rintro e w2 ⟨rfl, hb2⟩; have hB2 := bstep hB hb2)
                              | (go_at_call 28; refine (cC _ hB2).mono ?_; rintro e w3 ⟨rfl, hb3⟩; have hB3 := bstep hB2 hb3; have hL3 := bstep hb2 hb3; have hx3 := HL.out _ hL3; have hc3 := HC.out _ hB3)
                              | (go_at_call 29; refine (cF _ hB3).mono ?_; rintro e w4 ⟨rfl, hb4⟩; have hB4 := bstep hB3 hb4; have hL4 := bstep hL3 hb4))
                            go_roundw
                            case rel => exact ⟨q, f, hnext _ (by rw [hok]; rfl) hL4⟩
                            case measure =>
                              have h1 := (hnext _ (by rw [hok]; rfl) hL4).pos
                              rw [h1, hmz]
                              omega
            · have hnx : ∀ ty, (Instr.next (.pointer (some ⟨w1.heap.size, 0, none⟩)) true ty).run Tryf.prog wr = _ := fun ty => Lib.run_next_end_at wr w1.heap.size s pos ty hit hpos
              go_wp2
              go_ret
              refine ⟨⟨_, rfl, ?_⟩, hA.bel⟩
              rw [hA.ok, okGo_end fm fuel s pos hpos, empty_toList]
              rfl)
end Go.Proofs.Qxb6606413aFmt
