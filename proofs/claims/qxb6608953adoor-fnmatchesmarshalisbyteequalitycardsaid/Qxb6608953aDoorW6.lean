/-
  Seat b6608953aD: zzEscapeModel, as Marshal.
-/
import Derived.Test.Qxb6608953aDoorW5
import Derived.BigQuiet
namespace Go.Proofs.Qxb6608953aDoor
open Go.RowKit Go.Lib

/-- Where the escaping stands at k. -/
structure EAt (m : Bool) (s : ByteArray) (w : World) (v : Value) (k : Nat) (acc : List UInt8) (f : Nat) (wr : World) : Prop where
  bf : Bf w.heap.size w v acc wr
  le : k ≤ s.size
  eq : acc ++ esc m f (s.data.toList.drop k) = esc m s.size s.data.toList
  fu : s.size ≤ k + f
  len : acc.length ≤ 6 * k

theorem esc_step (m : Bool) (s : ByteArray) (k f : Nat) (hk : k < s.size) : esc m (f + 1) (s.data.toList.drop k) = esc1 m (Utf8.decode s k).1 (Utf8.decode s k).2 ((s.data.toList.drop k).take (Utf8.decode s k).2) ++ esc m f (s.data.toList.drop (k + (Utf8.decode s k).2)) := by
  rw [esc, if_neg (dec_step s k hk).2.2, decodeL_drop, List.drop_drop]

theorem esc1_len (m : Bool) (r z : Nat) (bs : List UInt8) (hz : 1 ≤ z) (hb : bs.length ≤ 6 * z) : (esc1 m r z bs).length ≤ 6 * z := by
  unfold esc1
  repeat' split
  all_goals first | exact hb | (simp; omega)

theorem EAt.step {m : Bool} {s : ByteArray} {w : World} {v v' : Value} {k : Nat} {acc : List UInt8} {f : Nat} {wr wr' : World} (h : EAt m s w v k acc f wr) (hk : k < s.size) {new : List UInt8}
    (he : esc1 m (Utf8.decode s k).1 (Utf8.decode s k).2 ((s.data.toList.drop k).take (Utf8.decode s k).2) = new)
    (hb : Bf w.heap.size w v' (acc ++ new) wr') :
    EAt m s w v' (k + (Utf8.decode s k).2) (acc ++ new) (f - 1) wr' := by
  subst he
  have hs := dec_step s k hk
  have hf := h.fu
  have hl := esc1_len m (Utf8.decode s k).1 (Utf8.decode s k).2 ((s.data.toList.drop k).take (Utf8.decode s k).2) hs.1 (by have := List.length_take_le (Utf8.decode s k).2 (s.data.toList.drop k); omega)
  obtain ⟨g, rfl⟩ : ∃ g, f = g + 1 := ⟨f - 1, by omega⟩
  refine ⟨hb, hs.2.1, ?_, by omega, ?_⟩
  · rw [← h.eq, esc_step m s k g hk, List.append_assoc]
    rfl
  · have := h.len
    rw [List.length_append]
    omega

theorem EAt.fin {m : Bool} {s : ByteArray} {w : World} {v : Value} {k : Nat} {acc : List UInt8} {f : Nat} {wr : World} (h : EAt m s w v k acc f wr) (hk : ¬ k < s.size) : Bf w.heap.size w v (esc m s.size s.data.toList) wr := by
  have he := h.eq
  have hd : s.data.toList.drop k = [] := List.drop_eq_nil_of_le (by rw [← Lib.size_eq]; omega)
  have hn : ∀ f, esc m f [] = [] := fun f => by cases f <;> simp [esc]
  rw [hd, hn, List.append_nil] at he
  rw [← he]
  exact h.bf

theorem hexDigitI (x : Int) (h0 : 0 ≤ x) (h1 : x < 16) (w : World) :
    Calls Tryd.prog 18 #[.int .i32 x] w fun e w' => e = .returned (.int .u8 ((hexD x.toNat).toNat : Int)) ∧ w' = w := by
  obtain ⟨d, rfl⟩ := Int.eq_ofNat_of_zero_le h0
  exact zzHexDigit d (by omega) w

set_option maxHeartbeats 16000000 in
set_option maxRecDepth 100000 in
theorem escModel (s : ByteArray) (hs : s.size ≤ 1048576) (w : World) :
    Calls Tryd.prog 9 #[.string s, .bool true] w fun e w' => Rt w.heap.size w (esc true s.size s.data.toList) e w' := by
  obtain ⟨i0, hi, hz0, hz1, hz2⟩ := info_parts Tryd.info5
  go_enter Tryd.func9, Tryd.ntmps9
  go_big_wp2_with (fail)
  go_loopw [5, 6] (fun t i wr => ∃ (v : Value) (k : Nat) (acc : List UInt8) (f : Nat), v = t ∧ i = .int .i64 k ∧ EAt true s w v k acc f wr) (fun _ i _ => s.size - (intOf i).toNat)
  case atStart => exact ⟨_, 0, [], s.size, rfl, rfl, Bf.nil w, Nat.zero_le _, by simp, by omega, by simp⟩
  case round =>
    obtain ⟨v, k, acc, f, rfl, rfl, h⟩ := hrel
    by_cases hk : k < s.size
    · have hz := zzDecode s k hk hs wr
      have hst := dec_step s k hk
      have HA := hide h
      have hal := h.len
      clear h
      have hD1 := hst.1
      have hD2 := hst.2.1
      have hR := decodeL_rune (s.data.toList.drop k)
      rw [decodeL_drop] at hR
      unfold ZD at hz
      by_cases hbad : (Utf8.decode s k).1 = 65533 ∧ (Utf8.decode s k).2 = 1
      · have HT := hide (fun (v2 : Value) (w2 : World) => HA.out.step hk (v' := v2) (wr' := w2) (new := [92, 117, 102, 102, 102, 100]) (by unfold esc1; rw [if_pos hbad]))
        have hz' : Calls Tryd.prog 17 #[.string s, .int .i64 k] wr fun e w' => e = .returned (.tuple #[.int .i32 0, .int .i64 1, .bool false]) ∧ Below wr.heap.size wr w' := hz.mono fun e w' ⟨h1, h2⟩ => by
          rcases h1 with h1 | h1
          · exact ⟨h1.2.2, h2⟩
          · exact absurd hbad h1.1
        rw [hbad.2] at HT
        clear hz hbad hst hD1 hD2 hR
        go_big_wp2_with (first
          | (at_builtin; refine wpList_bf_new rfl _ _ 22 rfl i0 Tryd.underlying22 hi hz0 hz1 hz2 w.heap.size w w1 v acc [92, 117, 102, 102, 102, 100] _ (HA.out.bf.call HW.out) rfl rfl (by rfl) (by simp; omega) ?_; intro v2 w2 hb2; have HB2 := hide hb2; clear hb2)
          | (go_at_call 17; refine hz'.mono ?_; rintro e w1 ⟨rfl, hb1⟩; have HW := hide hb1; clear hb1))
        go_roundw
        case rel => exact ⟨_, k + 1, _, _, rfl, by go_num, HT.out v2 w2 HB2.out⟩
        case measure => simp [intOf]; omega
      · have hz' : Calls Tryd.prog 17 #[.string s, .int .i64 k] wr fun e w' => e = .returned (.tuple #[.int .i32 (Utf8.decode s k).1, .int .i64 (Utf8.decode s k).2, .bool true]) ∧ Below wr.heap.size wr w' := hz.mono fun e w' ⟨h1, h2⟩ => by
          rcases h1 with h1 | h1
          · exact absurd ⟨h1.1, h1.2.1⟩ hbad
          · exact ⟨h1.2, h2⟩
        have HT := hide (fun (v2 : Value) (w2 : World) (new : List UInt8) => HA.out.step hk (v' := v2) (wr' := w2) (new := new))
        have HBad := hide hbad
        clear hz hbad hst
        have HK := hide (List.length_take_le (Utf8.decode s k).2 (s.data.toList.drop k))
        generalize (Utf8.decode s k).1 = r at *
        generalize (Utf8.decode s k).2 = z at *
        by_cases h34 : r = 34
        · subst h34
          have HE : Hid (esc1 true 34 z ((s.data.toList.drop k).take z) = [92, 34]) := hide (by unfold esc1; rw [if_neg HBad.out]; simp)
          go_big_wp2_with (first
            | (at_builtin; refine wpList_bf_new rfl _ _ 22 rfl i0 Tryd.underlying22 hi hz0 hz1 hz2 w.heap.size w w1 v acc [92, 34] _ (HA.out.bf.call HW.out) rfl rfl (by rfl) (by simp; omega) ?_; intro v2 w2 hb2; have HB2 := hide hb2; clear hb2)
            | (go_at_call 18; refine (hexDigitI _ (by first | omega | decide) (by first | omega | decide) _).mono ?_; rintro e w3 ⟨rfl, hw3⟩; rw [hw3]; clear hw3 w3)
            | (go_at_call 17; refine hz'.mono ?_; rintro e w1 ⟨rfl, hb1⟩; have HW := hide hb1; clear hb1))
          go_roundw
          case rel => exact ⟨_, k + z, _, _, rfl, by go_num, HT.out v2 w2 _ HE.out HB2.out⟩
          case measure => simp [intOf]; omega
        have hb34 : ((r : Int) == 34) = false := by simp only [beq_eq_false_iff_ne]; omega
        by_cases h92 : r = 92
        · subst h92
          have HE : Hid (esc1 true 92 z ((s.data.toList.drop k).take z) = [92, 92]) := hide (by unfold esc1; rw [if_neg HBad.out]; simp)
          go_big_wp2_with (first
            | (at_builtin; refine wpList_bf_new rfl _ _ 22 rfl i0 Tryd.underlying22 hi hz0 hz1 hz2 w.heap.size w w1 v acc [92, 92] _ (HA.out.bf.call HW.out) rfl rfl (by rfl) (by simp; omega) ?_; intro v2 w2 hb2; have HB2 := hide hb2; clear hb2)
            | (go_at_call 18; refine (hexDigitI _ (by first | omega | decide) (by first | omega | decide) _).mono ?_; rintro e w3 ⟨rfl, hw3⟩; rw [hw3]; clear hw3 w3)
            | (go_at_call 17; refine hz'.mono ?_; rintro e w1 ⟨rfl, hb1⟩; have HW := hide hb1; clear hb1))
          go_roundw
          case rel => exact ⟨_, k + z, _, _, rfl, by go_num, HT.out v2 w2 _ HE.out HB2.out⟩
          case measure => simp [intOf]; omega
        have hb92 : ((r : Int) == 92) = false := by simp only [beq_eq_false_iff_ne]; omega
        by_cases h10 : r = 10
        · subst h10
          have HE : Hid (esc1 true 10 z ((s.data.toList.drop k).take z) = [92, 110]) := hide (by unfold esc1; rw [if_neg HBad.out]; simp)
          go_big_wp2_with (first
            | (at_builtin; refine wpList_bf_new rfl _ _ 22 rfl i0 Tryd.underlying22 hi hz0 hz1 hz2 w.heap.size w w1 v acc [92, 110] _ (HA.out.bf.call HW.out) rfl rfl (by rfl) (by simp; omega) ?_; intro v2 w2 hb2; have HB2 := hide hb2; clear hb2)
            | (go_at_call 18; refine (hexDigitI _ (by first | omega | decide) (by first | omega | decide) _).mono ?_; rintro e w3 ⟨rfl, hw3⟩; rw [hw3]; clear hw3 w3)
            | (go_at_call 17; refine hz'.mono ?_; rintro e w1 ⟨rfl, hb1⟩; have HW := hide hb1; clear hb1))
          go_roundw
          case rel => exact ⟨_, k + z, _, _, rfl, by go_num, HT.out v2 w2 _ HE.out HB2.out⟩
          case measure => simp [intOf]; omega
        have hb10 : ((r : Int) == 10) = false := by simp only [beq_eq_false_iff_ne]; omega
        by_cases h13 : r = 13
        · subst h13
          have HE : Hid (esc1 true 13 z ((s.data.toList.drop k).take z) = [92, 114]) := hide (by unfold esc1; rw [if_neg HBad.out]; simp)
          go_big_wp2_with (first
            | (at_builtin; refine wpList_bf_new rfl _ _ 22 rfl i0 Tryd.underlying22 hi hz0 hz1 hz2 w.heap.size w w1 v acc [92, 114] _ (HA.out.bf.call HW.out) rfl rfl (by rfl) (by simp; omega) ?_; intro v2 w2 hb2; have HB2 := hide hb2; clear hb2)
            | (go_at_call 18; refine (hexDigitI _ (by first | omega | decide) (by first | omega | decide) _).mono ?_; rintro e w3 ⟨rfl, hw3⟩; rw [hw3]; clear hw3 w3)
            | (go_at_call 17; refine hz'.mono ?_; rintro e w1 ⟨rfl, hb1⟩; have HW := hide hb1; clear hb1))
          go_roundw
          case rel => exact ⟨_, k + z, _, _, rfl, by go_num, HT.out v2 w2 _ HE.out HB2.out⟩
          case measure => simp [intOf]; omega
        have hb13 : ((r : Int) == 13) = false := by simp only [beq_eq_false_iff_ne]; omega
        by_cases h9 : r = 9
        · subst h9
          have HE : Hid (esc1 true 9 z ((s.data.toList.drop k).take z) = [92, 116]) := hide (by unfold esc1; rw [if_neg HBad.out]; simp)
          go_big_wp2_with (first
            | (at_builtin; refine wpList_bf_new rfl _ _ 22 rfl i0 Tryd.underlying22 hi hz0 hz1 hz2 w.heap.size w w1 v acc [92, 116] _ (HA.out.bf.call HW.out) rfl rfl (by rfl) (by simp; omega) ?_; intro v2 w2 hb2; have HB2 := hide hb2; clear hb2)
            | (go_at_call 18; refine (hexDigitI _ (by first | omega | decide) (by first | omega | decide) _).mono ?_; rintro e w3 ⟨rfl, hw3⟩; rw [hw3]; clear hw3 w3)
            | (go_at_call 17; refine hz'.mono ?_; rintro e w1 ⟨rfl, hb1⟩; have HW := hide hb1; clear hb1))
          go_roundw
          case rel => exact ⟨_, k + z, _, _, rfl, by go_num, HT.out v2 w2 _ HE.out HB2.out⟩
          case measure => simp [intOf]; omega
        have hb9 : ((r : Int) == 9) = false := by simp only [beq_eq_false_iff_ne]; omega
        by_cases h8 : r = 8
        · subst h8
          have HE : Hid (esc1 true 8 z ((s.data.toList.drop k).take z) = [92, 98]) := hide (by unfold esc1; rw [if_neg HBad.out]; simp)
          go_big_wp2_with (first
            | (at_builtin; refine wpList_bf_new rfl _ _ 22 rfl i0 Tryd.underlying22 hi hz0 hz1 hz2 w.heap.size w w1 v acc [92, 98] _ (HA.out.bf.call HW.out) rfl rfl (by rfl) (by simp; omega) ?_; intro v2 w2 hb2; have HB2 := hide hb2; clear hb2)
            | (go_at_call 18; refine (hexDigitI _ (by first | omega | decide) (by first | omega | decide) _).mono ?_; rintro e w3 ⟨rfl, hw3⟩; rw [hw3]; clear hw3 w3)
            | (go_at_call 17; refine hz'.mono ?_; rintro e w1 ⟨rfl, hb1⟩; have HW := hide hb1; clear hb1))
          go_roundw
          case rel => exact ⟨_, k + z, _, _, rfl, by go_num, HT.out v2 w2 _ HE.out HB2.out⟩
          case measure => simp [intOf]; omega
        have hb8 : ((r : Int) == 8) = false := by simp only [beq_eq_false_iff_ne]; omega
        by_cases h12 : r = 12
        · subst h12
          have HE : Hid (esc1 true 12 z ((s.data.toList.drop k).take z) = [92, 102]) := hide (by unfold esc1; rw [if_neg HBad.out]; simp)
          go_big_wp2_with (first
            | (at_builtin; refine wpList_bf_new rfl _ _ 22 rfl i0 Tryd.underlying22 hi hz0 hz1 hz2 w.heap.size w w1 v acc [92, 102] _ (HA.out.bf.call HW.out) rfl rfl (by rfl) (by simp; omega) ?_; intro v2 w2 hb2; have HB2 := hide hb2; clear hb2)
            | (go_at_call 18; refine (hexDigitI _ (by first | omega | decide) (by first | omega | decide) _).mono ?_; rintro e w3 ⟨rfl, hw3⟩; rw [hw3]; clear hw3 w3)
            | (go_at_call 17; refine hz'.mono ?_; rintro e w1 ⟨rfl, hb1⟩; have HW := hide hb1; clear hb1))
          go_roundw
          case rel => exact ⟨_, k + z, _, _, rfl, by go_num, HT.out v2 w2 _ HE.out HB2.out⟩
          case measure => simp [intOf]; omega
        have hb12 : ((r : Int) == 12) = false := by simp only [beq_eq_false_iff_ne]; omega
        by_cases h60 : r = 60
        · subst h60
          have HE : Hid (esc1 true 60 z ((s.data.toList.drop k).take z) = [92, 117, 48, 48, 51, 99]) := hide (by unfold esc1; rw [if_neg HBad.out]; simp [hexD])
          go_big_wp2_with (first
            | (at_builtin; refine wpList_bf_new rfl _ _ 22 rfl i0 Tryd.underlying22 hi hz0 hz1 hz2 w.heap.size w w1 v acc [92, 117, 48, 48, 51, 99] _ (HA.out.bf.call HW.out) rfl rfl (by rfl) (by simp; omega) ?_; intro v2 w2 hb2; have HB2 := hide hb2; clear hb2)
            | (go_at_call 18; refine (hexDigitI _ (by first | omega | decide) (by first | omega | decide) _).mono ?_; rintro e w3 ⟨rfl, hw3⟩; rw [hw3]; clear hw3 w3)
            | (go_at_call 17; refine hz'.mono ?_; rintro e w1 ⟨rfl, hb1⟩; have HW := hide hb1; clear hb1))
          go_roundw
          case rel => exact ⟨_, k + z, _, _, rfl, by go_num, HT.out v2 w2 _ HE.out HB2.out⟩
          case measure => simp [intOf]; omega
        have hb60 : ((r : Int) == 60) = false := by simp only [beq_eq_false_iff_ne]; omega
        by_cases h62 : r = 62
        · subst h62
          have HE : Hid (esc1 true 62 z ((s.data.toList.drop k).take z) = [92, 117, 48, 48, 51, 101]) := hide (by unfold esc1; rw [if_neg HBad.out]; simp [hexD])
          go_big_wp2_with (first
            | (at_builtin; refine wpList_bf_new rfl _ _ 22 rfl i0 Tryd.underlying22 hi hz0 hz1 hz2 w.heap.size w w1 v acc [92, 117, 48, 48, 51, 101] _ (HA.out.bf.call HW.out) rfl rfl (by rfl) (by simp; omega) ?_; intro v2 w2 hb2; have HB2 := hide hb2; clear hb2)
            | (go_at_call 18; refine (hexDigitI _ (by first | omega | decide) (by first | omega | decide) _).mono ?_; rintro e w3 ⟨rfl, hw3⟩; rw [hw3]; clear hw3 w3)
            | (go_at_call 17; refine hz'.mono ?_; rintro e w1 ⟨rfl, hb1⟩; have HW := hide hb1; clear hb1))
          go_roundw
          case rel => exact ⟨_, k + z, _, _, rfl, by go_num, HT.out v2 w2 _ HE.out HB2.out⟩
          case measure => simp [intOf]; omega
        have hb62 : ((r : Int) == 62) = false := by simp only [beq_eq_false_iff_ne]; omega
        by_cases h38 : r = 38
        · subst h38
          have HE : Hid (esc1 true 38 z ((s.data.toList.drop k).take z) = [92, 117, 48, 48, 50, 54]) := hide (by unfold esc1; rw [if_neg HBad.out]; simp [hexD])
          go_big_wp2_with (first
            | (at_builtin; refine wpList_bf_new rfl _ _ 22 rfl i0 Tryd.underlying22 hi hz0 hz1 hz2 w.heap.size w w1 v acc [92, 117, 48, 48, 50, 54] _ (HA.out.bf.call HW.out) rfl rfl (by rfl) (by simp; omega) ?_; intro v2 w2 hb2; have HB2 := hide hb2; clear hb2)
            | (go_at_call 18; refine (hexDigitI _ (by first | omega | decide) (by first | omega | decide) _).mono ?_; rintro e w3 ⟨rfl, hw3⟩; rw [hw3]; clear hw3 w3)
            | (go_at_call 17; refine hz'.mono ?_; rintro e w1 ⟨rfl, hb1⟩; have HW := hide hb1; clear hb1))
          go_roundw
          case rel => exact ⟨_, k + z, _, _, rfl, by go_num, HT.out v2 w2 _ HE.out HB2.out⟩
          case measure => simp [intOf]; omega
        have hb38 : ((r : Int) == 38) = false := by simp only [beq_eq_false_iff_ne]; omega
        by_cases h8232 : r = 8232
        · subst h8232
          have HE : Hid (esc1 true 8232 z ((s.data.toList.drop k).take z) = [92, 117, 50, 48, 50, 56]) := hide (by unfold esc1; rw [if_neg HBad.out]; simp [hexD])
          go_big_wp2_with (first
            | (at_builtin; refine wpList_bf_new rfl _ _ 22 rfl i0 Tryd.underlying22 hi hz0 hz1 hz2 w.heap.size w w1 v acc [92, 117, 50, 48, 50, 56] _ (HA.out.bf.call HW.out) rfl rfl (by rfl) (by simp; omega) ?_; intro v2 w2 hb2; have HB2 := hide hb2; clear hb2)
            | (go_at_call 18; refine (hexDigitI _ (by first | omega | decide) (by first | omega | decide) _).mono ?_; rintro e w3 ⟨rfl, hw3⟩; rw [hw3]; clear hw3 w3)
            | (go_at_call 17; refine hz'.mono ?_; rintro e w1 ⟨rfl, hb1⟩; have HW := hide hb1; clear hb1))
          go_roundw
          case rel => exact ⟨_, k + z, _, _, rfl, by go_num, HT.out v2 w2 _ HE.out HB2.out⟩
          case measure => simp [intOf]; omega
        have hb8232 : ((r : Int) == 8232) = false := by simp only [beq_eq_false_iff_ne]; omega
        by_cases h8233 : r = 8233
        · subst h8233
          have HE : Hid (esc1 true 8233 z ((s.data.toList.drop k).take z) = [92, 117, 50, 48, 50, 57]) := hide (by unfold esc1; rw [if_neg HBad.out]; simp [hexD])
          go_big_wp2_with (first
            | (at_builtin; refine wpList_bf_new rfl _ _ 22 rfl i0 Tryd.underlying22 hi hz0 hz1 hz2 w.heap.size w w1 v acc [92, 117, 50, 48, 50, 57] _ (HA.out.bf.call HW.out) rfl rfl (by rfl) (by simp; omega) ?_; intro v2 w2 hb2; have HB2 := hide hb2; clear hb2)
            | (go_at_call 18; refine (hexDigitI _ (by first | omega | decide) (by first | omega | decide) _).mono ?_; rintro e w3 ⟨rfl, hw3⟩; rw [hw3]; clear hw3 w3)
            | (go_at_call 17; refine hz'.mono ?_; rintro e w1 ⟨rfl, hb1⟩; have HW := hide hb1; clear hb1))
          go_roundw
          case rel => exact ⟨_, k + z, _, _, rfl, by go_num, HT.out v2 w2 _ HE.out HB2.out⟩
          case measure => simp [intOf]; omega
        have hb8233 : ((r : Int) == 8233) = false := by simp only [beq_eq_false_iff_ne]; omega
        by_cases hlow : r < 32
        · have HE : Hid (esc1 true r z ((s.data.toList.drop k).take z) = [92, 117, 48, 48, hexD (r / 16), hexD (r % 16)]) := hide (by
            unfold esc1
            rw [if_neg HBad.out, if_neg (by omega), if_neg (by omega), if_neg (by omega), if_neg (by omega), if_neg (by omega), if_neg (by omega), if_pos (by omega)])
          have kdiv : ∀ wn, Calls Tryd.prog 18 #[.int .i32 ((r : Int) / 16)] wn fun e w' => e = .returned (.int .u8 ((hexD (r / 16)).toNat : Int)) ∧ w' = wn := fun wn => by
            have e1 : (r : Int) / 16 = ((r / 16 : Nat) : Int) := by omega
            rw [e1]
            exact zzHexDigit (r / 16) (by omega) wn
          have kand : ∀ wn, Calls Tryd.prog 18 #[.int .i32 (bits .and .i32 (r : Int) 15)] wn fun e w' => e = .returned (.int .u8 ((hexD (r % 16)).toNat : Int)) ∧ w' = wn := fun wn => by
            have e0 : bits .and .i32 (r : Int) 15 = (r : Int) % 16 := bits_mask .i32 31 (by decide) wraps_i32 4 (by decide) r (by omega) (by omega)
            have e1 : (r : Int) % 16 = ((r % 16 : Nat) : Int) := by omega
            rw [e0, e1]
            exact zzHexDigit (r % 16) (by omega) wn
          clear HBad
          go_big_wp2_with (first
            | (at_builtin; refine wpList_bf_new rfl _ _ 22 rfl i0 Tryd.underlying22 hi hz0 hz1 hz2 w.heap.size w w1 v acc [92, 117, 48, 48, hexD (r / 16), hexD (r % 16)] _ (HA.out.bf.call HW.out) rfl rfl (by rfl) (by simp; omega) ?_; intro v2 w2 hb2; have HB2 := hide hb2; clear hb2)
            | (go_at_call 18; have M2 := M1; refine (kand _).mono ?_; rintro e w3 ⟨rfl, hw3⟩; rw [hw3]; clear hw3 w3)
            | (go_at_call 18; refine (kdiv _).mono ?_; rintro e w3 ⟨rfl, hw3⟩; rw [hw3]; clear hw3 w3; have M1 := True.intro)
            | (go_at_call 17; refine hz'.mono ?_; rintro e w1 ⟨rfl, hb1⟩; have HW := hide hb1; clear hb1))
          go_roundw
          case rel => exact ⟨_, k + z, _, _, rfl, by go_num, HT.out v2 w2 _ HE.out HB2.out⟩
          case measure => simp [intOf]; omega
        have HE : Hid (esc1 true r z ((s.data.toList.drop k).take z) = (s.data.toList.drop k).take z) := hide (by
          unfold esc1
          rw [if_neg HBad.out, if_neg (by omega), if_neg (by omega), if_neg (by omega), if_neg (by omega), if_neg (by omega), if_neg (by omega), if_neg (by omega), if_neg (by omega)])
        have HX : Hid ((s.extract k (k + z)).data.toList = (s.data.toList.drop k).take z) := hide (by rw [extract_list]; congr 1; omega)
        clear HBad
        go_big_wp2_with (first
          | (at_builtin; refine wpList_bf_text rfl _ _ 22 9 rfl i0 Tryd.underlying22 Tryd.underlying9 hi hz0 hz1 hz2 w.heap.size w w1 v acc (HA.out.bf.call HW.out) rfl (s.extract k (k + z)) rfl (by rw [Lib.size_eq, HX.out]; have := HK.out; omega) ?_; intro v2 w2 hb2; rw [HX.out] at hb2; have HB2 := hide hb2; clear hb2)
          | (go_at_call 17; refine hz'.mono ?_; rintro e w1 ⟨rfl, hb1⟩; have HW := hide hb1; clear hb1))
        go_roundw
        case rel => exact ⟨_, k + z, _, _, rfl, by go_num, HT.out v2 w2 _ HE.out HB2.out⟩
        case measure => simp [intOf]; omega
    · have HA := hide h
      clear h
      go_big_wp2_with (fail)
      go_ret
      exact ⟨_, rfl, HA.out.fin hk⟩

end Go.Proofs.Qxb6608953aDoor
