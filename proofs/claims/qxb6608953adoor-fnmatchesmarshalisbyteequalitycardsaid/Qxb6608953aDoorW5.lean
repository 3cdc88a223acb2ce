/-
  Seat b6608953aD: zzSanitize.
-/
import Derived.Test.Qxb6608953aDoorW2
import Derived.Test.Qxb6608953aDoorW4
namespace Go.Proofs.Qxb6608953aDoor
open Go.RowKit Go.Lib

theorem extract_list (s : ByteArray) (a b : Nat) : (s.extract a b).data.toList = (s.data.toList.drop a).take (b - a) := by
  rw [ByteArray.data_extract, Array.toList_extract, List.extract_eq_take_drop]

/-- Where the cleaning stands at k. -/
structure SAt (s : ByteArray) (w : World) (v : Value) (k : Nat) (acc : List UInt8) (f : Nat) (wr : World) : Prop where
  bf : Bf w.heap.size w v acc wr
  le : k ≤ s.size
  eq : acc ++ san f (s.data.toList.drop k) = san s.size s.data.toList
  fu : s.size ≤ k + f
  len : acc.length ≤ 3 * k

/-- The decoder's step at k. -/
theorem dec_step (s : ByteArray) (k : Nat) (hk : k < s.size) : 1 ≤ (Utf8.decode s k).2 ∧ k + (Utf8.decode s k).2 ≤ s.size ∧ s.data.toList.drop k ≠ [] := by
  have hne : s.data.toList.drop k ≠ [] := by
    intro e
    have := congrArg List.length e
    rw [List.length_drop, ← Lib.size_eq] at this
    simp at this
    omega
  have h1 := decodeL_width (s.data.toList.drop k)
  have h2 := decodeL_le (s.data.toList.drop k) hne
  rw [decodeL_drop] at h1 h2
  rw [List.length_drop, ← Lib.size_eq] at h2
  exact ⟨h1, by omega, hne⟩

theorem san_step (s : ByteArray) (k f : Nat) (hk : k < s.size) : san (f + 1) (s.data.toList.drop k) = san1 (Utf8.decode s k).1 (Utf8.decode s k).2 ((s.data.toList.drop k).take (Utf8.decode s k).2) ++ san f (s.data.toList.drop (k + (Utf8.decode s k).2)) := by
  rw [san, if_neg (dec_step s k hk).2.2, decodeL_drop, List.drop_drop]

theorem SAt.step {s : ByteArray} {w : World} {v v' : Value} {k : Nat} {acc : List UInt8} {f : Nat} {wr wr' : World} (h : SAt s w v k acc f wr) (hk : k < s.size)
    (hb : Bf w.heap.size w v' (acc ++ san1 (Utf8.decode s k).1 (Utf8.decode s k).2 ((s.data.toList.drop k).take (Utf8.decode s k).2)) wr') (hl : (san1 (Utf8.decode s k).1 (Utf8.decode s k).2 ((s.data.toList.drop k).take (Utf8.decode s k).2)).length ≤ 3 * (Utf8.decode s k).2) :
    SAt s w v' (k + (Utf8.decode s k).2) (acc ++ san1 (Utf8.decode s k).1 (Utf8.decode s k).2 ((s.data.toList.drop k).take (Utf8.decode s k).2)) (f - 1) wr' := by
  have hs := dec_step s k hk
  have hf := h.fu
  obtain ⟨g, rfl⟩ : ∃ g, f = g + 1 := ⟨f - 1, by omega⟩
  refine ⟨hb, hs.2.1, ?_, by omega, ?_⟩
  · rw [← h.eq, san_step s k g hk, List.append_assoc]
    rfl
  · have := h.len
    rw [List.length_append]
    omega

set_option maxHeartbeats 1600000 in
set_option maxRecDepth 100000 in
theorem zzSanitize (s : ByteArray) (hs : s.size ≤ 1048576) (w : World) :
    Calls Tryd.prog 13 #[.string s] w fun e w' => Rt w.heap.size w (san s.size s.data.toList) e w' := by
  obtain ⟨i0, hi, hz0, hz1, hz2⟩ := info_parts Tryd.info5
  go_enter Tryd.func13, Tryd.ntmps13
  go_wp2
  go_loopw [3, 4] (fun t i wr => ∃ (v : Value) (k : Nat) (acc : List UInt8) (f : Nat), v = t ∧ i = .int .i64 k ∧ SAt s w v k acc f wr) (fun _ i _ => s.size - (intOf i).toNat)
  case atStart => exact ⟨_, 0, [], s.size, rfl, rfl, Bf.nil w, Nat.zero_le _, by simp, by omega, by simp⟩
  case round =>
    obtain ⟨v, k, acc, f, rfl, rfl, h⟩ := hrel
    by_cases hk : k < s.size
    · have hz := zzDecode s k hk hs wr
      have hst := dec_step s k hk
      have HA := hide h
      have hal := h.len
      clear h
      have hD1 := hst.1
      have hD2 := hst.2.1
      have HR := hide (decodeL_rune (s.data.toList.drop k))
      rw [decodeL_drop] at HR
      unfold ZD at hz
      by_cases hbad : (Utf8.decode s k).1 = 65533 ∧ (Utf8.decode s k).2 = 1
      · have HB := hide hbad
        have hz' : Calls Tryd.prog 17 #[.string s, .int .i64 k] wr fun e w' => e = .returned (.tuple #[.int .i32 0, .int .i64 1, .bool false]) ∧ Below wr.heap.size wr w' := hz.mono fun e w' ⟨h1, h2⟩ => by
          rcases h1 with h1 | h1
          · exact ⟨h1.2.2, h2⟩
          · exact absurd hbad h1.1
        clear hz hbad hst hD1 hD2
        go_wp2_with (first
          | (at_builtin; refine wpList_bf_new rfl _ _ 22 rfl i0 Tryd.underlying22 hi hz0 hz1 hz2 w.heap.size w w1 v acc [239, 191, 189] _ (HA.out.bf.call HW.out) rfl rfl (by rfl) (by simp; omega) ?_; intro v2 w2 hb2; have HB2 := hide hb2; clear hb2)
          | (go_at_call 17; refine hz'.mono ?_; rintro e w1 ⟨rfl, hb1⟩; have HW := hide hb1; clear hb1))
        go_roundw
        case rel =>
          have h2 := HB.out
          have hs1 : san1 (Utf8.decode s k).1 (Utf8.decode s k).2 ((s.data.toList.drop k).take (Utf8.decode s k).2) = [239, 191, 189] := by
            unfold san1
            rw [if_pos h2]
          have h3 := HA.out.step hk (v' := v2) (wr' := w2) (by rw [hs1]; exact HB2.out) (by rw [hs1, h2.2]; simp)
          rw [h2.2] at h3
          exact ⟨_, k + 1, _, _, rfl, by go_num, h3⟩
        case measure => simp [intOf]; omega
      · have HB := hide hbad
        have hz' : Calls Tryd.prog 17 #[.string s, .int .i64 k] wr fun e w' => e = .returned (.tuple #[.int .i32 (Utf8.decode s k).1, .int .i64 (Utf8.decode s k).2, .bool true]) ∧ Below wr.heap.size wr w' := hz.mono fun e w' ⟨h1, h2⟩ => by
          rcases h1 with h1 | h1
          · exact absurd ⟨h1.1, h1.2.1⟩ hbad
          · exact ⟨h1.2, h2⟩
        have HS : Hid (san1 (Utf8.decode s k).1 (Utf8.decode s k).2 ((s.data.toList.drop k).take (Utf8.decode s k).2) = (s.extract k (k + (Utf8.decode s k).2)).data.toList) := hide (by
          unfold san1
          rw [if_neg hbad, extract_list]
          congr 1
          omega)
        have HT := hide (fun (v2 : Value) (w2 : World) => HA.out.step hk (v' := v2) (wr' := w2))
        rw [HS.out] at HT
        clear hz hbad hst HS HB
        generalize (Utf8.decode s k).1 = r at *
        generalize (Utf8.decode s k).2 = z at *
        go_wp2_with (first
          | (at_builtin; refine wpList_bf_text rfl _ _ 22 9 rfl i0 Tryd.underlying22 Tryd.underlying9 hi hz0 hz1 hz2 w.heap.size w w1 v acc (HA.out.bf.call HW.out) rfl (s.extract k (k + z)) rfl (by rw [Lib.size_eq, extract_list]; have := List.length_take_le (k + z - k) (s.data.toList.drop k); omega) ?_; intro v2 w2 hb2; have HB2 := hide hb2; clear hb2)
          | (go_at_call 17; refine hz'.mono ?_; rintro e w1 ⟨rfl, hb1⟩; have HW := hide hb1; clear hb1))
        go_roundw
        case rel =>
          exact ⟨_, k + z, _, _, rfl, by go_num, HT.out v2 w2 HB2.out (by rw [extract_list]; have := List.length_take_le (k + z - k) (s.data.toList.drop k); omega)⟩
        case measure => simp [intOf]; omega
    · have HA := hide h
      clear h
      go_wp2
      go_ret
      have he := HA.out.eq
      have hd : s.data.toList.drop k = [] := List.drop_eq_nil_of_le (by rw [← Lib.size_eq]; omega)
      have hn : ∀ f, san f [] = [] := fun f => by cases f <;> simp [san]
      rw [hd, hn, List.append_nil] at he
      exact ⟨_, rfl, by rw [← he]; exact HA.out.bf⟩

end Go.Proofs.Qxb6608953aDoor
