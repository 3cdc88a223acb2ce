/-
  Seat b6608953aD: AppendEscaped.
-/
import Derived.Test.Qxb6608953aDoorW6
import Derived.Test.Qxb6608953aDoorShelf
import Derived.Test.Qxb6608953aDoorStep
import Derived.Deep.RegionHeld3
namespace Go.Proofs.Qxb6608953aDoor
open Go.RowKit Go.Lib

/-- Where the appending stands: the bytes before st are written, those from st up to k stand as they are. -/
structure AAt (s : ByteArray) (w : World) (v : Value) (st k : Nat) (acc : List UInt8) (f : Nat) (wr : World) : Prop where
  bf : Bf w.heap.size w v acc wr
  stk : st ≤ k
  le : k ≤ s.size
  eq : acc ++ (s.data.toList.drop st).take (k - st) ++ esc false f (s.data.toList.drop k) = esc false s.size s.data.toList
  fu : s.size ≤ k + f
  len : acc.length ≤ 6 * st

theorem take_more (l : List UInt8) (a b c : Nat) (h1 : a ≤ b) : (l.drop a).take (b - a) ++ (l.drop b).take c = (l.drop a).take (b + c - a) := by
  have e : b + c - a = (b - a) + c := by omega
  rw [e, List.take_add, List.drop_drop]
  congr 3
  omega

theorem AAt.skip {s : ByteArray} {w : World} {v : Value} {st k : Nat} {acc : List UInt8} {f : Nat} {wr wr' : World} (h : AAt s w v st k acc f wr) (hk : k < s.size)
    (he : esc1 false (Utf8.decode s k).1 (Utf8.decode s k).2 ((s.data.toList.drop k).take (Utf8.decode s k).2) = (s.data.toList.drop k).take (Utf8.decode s k).2)
    (hb : Bf w.heap.size w v acc wr') : AAt s w v st (k + (Utf8.decode s k).2) acc (f - 1) wr' := by
  have hs := dec_step s k hk
  have hf := h.fu
  have h1 := h.stk
  obtain ⟨g, rfl⟩ : ∃ g, f = g + 1 := ⟨f - 1, by omega⟩
  refine ⟨hb, by omega, hs.2.1, ?_, by omega, h.len⟩
  rw [← h.eq, esc_step false s k g hk, he, ← take_more s.data.toList st k _ h1]
  simp only [List.append_assoc]
  rfl

theorem AAt.flush {s : ByteArray} {w : World} {v v' : Value} {st k : Nat} {acc : List UInt8} {f : Nat} {wr wr' : World} (h : AAt s w v st k acc f wr) (hk : k < s.size) {new : List UInt8}
    (he : esc1 false (Utf8.decode s k).1 (Utf8.decode s k).2 ((s.data.toList.drop k).take (Utf8.decode s k).2) = new)
    (hb : Bf w.heap.size w v' (acc ++ (s.data.toList.drop st).take (k - st) ++ new) wr') :
    AAt s w v' (k + (Utf8.decode s k).2) (k + (Utf8.decode s k).2) (acc ++ (s.data.toList.drop st).take (k - st) ++ new) (f - 1) wr' := by
  subst he
  have hs := dec_step s k hk
  have hf := h.fu
  have h1 := h.stk
  have h2 := h.len
  have hl := esc1_len false (Utf8.decode s k).1 (Utf8.decode s k).2 ((s.data.toList.drop k).take (Utf8.decode s k).2) hs.1 (by have := List.length_take_le (Utf8.decode s k).2 (s.data.toList.drop k); omega)
  have hl2 := List.length_take_le (k - st) (s.data.toList.drop st)
  obtain ⟨g, rfl⟩ : ∃ g, f = g + 1 := ⟨f - 1, by omega⟩
  refine ⟨hb, Nat.le_refl _, hs.2.1, ?_, by omega, ?_⟩
  · rw [← h.eq, esc_step false s k g hk]
    simp
  · simp only [List.length_append]
    omega

theorem AAt.fin {s : ByteArray} {w : World} {v v' : Value} {st k : Nat} {acc : List UInt8} {f : Nat} {wr wr' : World} (h : AAt s w v st k acc f wr) (hk : ¬ k < s.size)
    (hb : Bf w.heap.size w v' (acc ++ s.data.toList.drop st) wr') : Bf w.heap.size w v' (esc false s.size s.data.toList) wr' := by
  have he := h.eq
  have h1 := h.stk
  have h2 := h.le
  have hd : s.data.toList.drop k = [] := List.drop_eq_nil_of_le (by rw [← Lib.size_eq]; omega)
  have hn : ∀ f, esc false f [] = [] := fun f => by cases f <;> simp [esc]
  rw [hd, hn, List.append_nil, List.take_of_length_le (by rw [List.length_drop, ← Lib.size_eq]; omega)] at he
  rw [← he]
  exact hb

theorem Tryd.mixed : Tryd.prog.follows .mixedOrders = true := by kernel_rfl

theorem hexIdx (x : Int) (d : Nat) (hx : x = d) (hd : d < 16) : ∀ (h : x.toNat < (ByteArray.mk #[48, 49, 50, 51, 52, 53, 54, 55, 56, 57, 97, 98, 99, 100, 101, 102]).size), (((ByteArray.mk #[48, 49, 50, 51, 52, 53, 54, 55, 56, 57, 97, 98, 99, 100, 101, 102])[x.toNat]'h).toNat : Int) = ((hexD d).toNat : Int) := by
  have key : ∀ e : Fin 16, (((ByteArray.mk #[48, 49, 50, 51, 52, 53, 54, 55, 56, 57, 97, 98, 99, 100, 101, 102])[e.val]'e.isLt).toNat : Int) = ((hexD e.val).toNat : Int) := by decide
  intro h
  have e : x.toNat = d := by omega
  have := key ⟨d, hd⟩
  simp only [e]
  exact this

/-- Decoding the rest of the text is decoding at k. -/
theorem decodeGo_at (s : ByteArray) (k : Nat) (hk : k < s.size) : Lib.decodeGo (s.extract k s.size) = Utf8.decode s k := by
  have e : (s.extract k s.size).data.toList = s.data.toList.drop k := by
    rw [extract_list, List.take_of_length_le]
    rw [List.length_drop, ← Lib.size_eq]
    omega
  have hz : (s.extract k s.size).size ≠ 0 := by
    rw [Lib.size_eq, e, List.length_drop, ← Lib.size_eq]
    omega
  unfold Lib.decodeGo
  rw [if_neg hz, ← decodeL_drop s k, ← e, decodeL]

/-- A byte below 128 stands for itself. -/
theorem decode_low (s : ByteArray) (k : Nat) (hk : k < s.size) (h : s[k].toNat < 128) : Utf8.decode s k = (s[k].toNat, 1) ∧ (s.data.toList.drop k).take 1 = [s[k]] := by
  have e : s.data.toList.drop k = s[k] :: s.data.toList.drop (k + 1) := by
    rw [List.drop_eq_getElem_cons (by rw [← Lib.size_eq]; exact hk)]
    rfl
  rw [← decodeL_drop, e]
  exact ⟨decodeL_ascii _ _ h, rfl⟩

set_option maxHeartbeats 16000000 in
set_option maxRecDepth 100000 in
theorem appendEscaped (s : ByteArray) (hs : s.size ≤ 1048576) (w : World) (hT : Lib.Utf8Tabs 0 1 w) :
    Calls Tryd.prog 8 #[.slice none 0 0, .string s] w fun e w' => Rt w.heap.size w (esc false s.size s.data.toList) e w' := by
  obtain ⟨i0, hi, hz0, hz1, hz2⟩ := info_parts Tryd.info5
  go_enter Tryd.func8, Tryd.ntmps8
  go_big_wp2_with (fail)
  go_loopw [0, 5, 6] (fun t u i wr => ∃ (v : Value) (st k : Nat) (acc : List UInt8) (f : Nat), v = t ∧ u = .int .i64 st ∧ i = .int .i64 k ∧ AAt s w v st k acc f wr) (fun _ _ i _ => s.size - (Go.RowKit.intOf i).toNat)
  case atStart => exact ⟨_, 0, 0, [], s.size, rfl, rfl, rfl, Bf.nil w, Nat.le_refl _, Nat.zero_le _, by simp, by omega, by simp⟩
  case round =>
    obtain ⟨v, st, k, acc, f, rfl, rfl, rfl, h⟩ := hrel
    have hst := h.stk
    have hle := h.le
    have hal := h.len
    by_cases hk : k < s.size
    · have HX : Hid ((s.extract st k).data.toList = (s.data.toList.drop st).take (k - st)) := hide (extract_list s st k)
      have HXL := hide (List.length_take_le (k - st) (s.data.toList.drop st))
      have HA := hide h
      clear h
      by_cases hc : s[k].toNat < 128
      · obtain ⟨hd, hb1⟩ := decode_low s k hk hc
        have HS := hide (HA.out.skip hk (wr' := wr))
        have HF := hide (fun (v2 : Value) (w2 : World) (new : List UInt8) => HA.out.flush hk (v' := v2) (wr' := w2) (new := new))
        rw [hd] at HS HF
        dsimp only at HS HF
        rw [hb1] at HS HF
        clear hd hb1
        by_cases h34 : s[k].toNat = 34
        · have hx : (s[k].toNat : Int) = 34 := by omega
          have HE : Hid (esc1 false s[k].toNat 1 [s[k]] = [92, 34]) := hide (by rw [h34]; simp [esc1])
          go_big_wp2_with (first
            | (at_builtin; refine wpList_bf_new rfl _ _ 22 rfl i0 Tryd.underlying22 hi hz0 hz1 hz2 w.heap.size w w2 v2 (acc ++ (s.data.toList.drop st).take (k - st)) [92, 34] _ HB2.out rfl rfl (by first | rfl | simp [bv, hx]) (by have := HXL.out; simp only [List.length_append, List.length_cons, List.length_nil]; omega) ?_; intro v3 w3 hb3; have HB3 := hide hb3; clear hb3)
            | (at_builtin; refine wpList_bf_text rfl _ _ 22 9 rfl i0 Tryd.underlying22 Tryd.underlying9 hi hz0 hz1 hz2 w.heap.size w wr v acc HA.out.bf rfl (s.extract st k) rfl (by rw [Lib.size_eq, HX.out]; have := HXL.out; omega) ?_; intro v2 w2 hb2; rw [HX.out] at hb2; have HB2 := hide hb2; clear hb2))
          go_roundw
          case rel => exact ⟨_, k + 1, k + 1, _, _, rfl, by go_num, by go_num, HF.out v3 w3 _ HE.out HB3.out⟩
          case measure => simp [Go.RowKit.intOf]; omega
        have n34 : ((s[k].toNat : Int) == 34) = false := by simp only [beq_eq_false_iff_ne]; omega
        by_cases h92 : s[k].toNat = 92
        · have hx : (s[k].toNat : Int) = 92 := by omega
          have HE : Hid (esc1 false s[k].toNat 1 [s[k]] = [92, 92]) := hide (by rw [h92]; simp [esc1])
          go_big_wp2_with (first
            | (at_builtin; refine wpList_bf_new rfl _ _ 22 rfl i0 Tryd.underlying22 hi hz0 hz1 hz2 w.heap.size w w2 v2 (acc ++ (s.data.toList.drop st).take (k - st)) [92, 92] _ HB2.out rfl rfl (by first | rfl | simp [bv, hx]) (by have := HXL.out; simp only [List.length_append, List.length_cons, List.length_nil]; omega) ?_; intro v3 w3 hb3; have HB3 := hide hb3; clear hb3)
            | (at_builtin; refine wpList_bf_text rfl _ _ 22 9 rfl i0 Tryd.underlying22 Tryd.underlying9 hi hz0 hz1 hz2 w.heap.size w wr v acc HA.out.bf rfl (s.extract st k) rfl (by rw [Lib.size_eq, HX.out]; have := HXL.out; omega) ?_; intro v2 w2 hb2; rw [HX.out] at hb2; have HB2 := hide hb2; clear hb2))
          go_roundw
          case rel => exact ⟨_, k + 1, k + 1, _, _, rfl, by go_num, by go_num, HF.out v3 w3 _ HE.out HB3.out⟩
          case measure => simp [Go.RowKit.intOf]; omega
        have n92 : ((s[k].toNat : Int) == 92) = false := by simp only [beq_eq_false_iff_ne]; omega
        by_cases h10 : s[k].toNat = 10
        · have hx : (s[k].toNat : Int) = 10 := by omega
          have HE : Hid (esc1 false s[k].toNat 1 [s[k]] = [92, 110]) := hide (by rw [h10]; simp [esc1])
          go_big_wp2_with (first
            | (at_builtin; refine wpList_bf_new rfl _ _ 22 rfl i0 Tryd.underlying22 hi hz0 hz1 hz2 w.heap.size w w2 v2 (acc ++ (s.data.toList.drop st).take (k - st)) [92, 110] _ HB2.out rfl rfl (by first | rfl | simp [bv, hx]) (by have := HXL.out; simp only [List.length_append, List.length_cons, List.length_nil]; omega) ?_; intro v3 w3 hb3; have HB3 := hide hb3; clear hb3)
            | (at_builtin; refine wpList_bf_text rfl _ _ 22 9 rfl i0 Tryd.underlying22 Tryd.underlying9 hi hz0 hz1 hz2 w.heap.size w wr v acc HA.out.bf rfl (s.extract st k) rfl (by rw [Lib.size_eq, HX.out]; have := HXL.out; omega) ?_; intro v2 w2 hb2; rw [HX.out] at hb2; have HB2 := hide hb2; clear hb2))
          go_roundw
          case rel => exact ⟨_, k + 1, k + 1, _, _, rfl, by go_num, by go_num, HF.out v3 w3 _ HE.out HB3.out⟩
          case measure => simp [Go.RowKit.intOf]; omega
        have n10 : ((s[k].toNat : Int) == 10) = false := by simp only [beq_eq_false_iff_ne]; omega
        by_cases h13 : s[k].toNat = 13
        · have hx : (s[k].toNat : Int) = 13 := by omega
          have HE : Hid (esc1 false s[k].toNat 1 [s[k]] = [92, 114]) := hide (by rw [h13]; simp [esc1])
          go_big_wp2_with (first
            | (at_builtin; refine wpList_bf_new rfl _ _ 22 rfl i0 Tryd.underlying22 hi hz0 hz1 hz2 w.heap.size w w2 v2 (acc ++ (s.data.toList.drop st).take (k - st)) [92, 114] _ HB2.out rfl rfl (by first | rfl | simp [bv, hx]) (by have := HXL.out; simp only [List.length_append, List.length_cons, List.length_nil]; omega) ?_; intro v3 w3 hb3; have HB3 := hide hb3; clear hb3)
            | (at_builtin; refine wpList_bf_text rfl _ _ 22 9 rfl i0 Tryd.underlying22 Tryd.underlying9 hi hz0 hz1 hz2 w.heap.size w wr v acc HA.out.bf rfl (s.extract st k) rfl (by rw [Lib.size_eq, HX.out]; have := HXL.out; omega) ?_; intro v2 w2 hb2; rw [HX.out] at hb2; have HB2 := hide hb2; clear hb2))
          go_roundw
          case rel => exact ⟨_, k + 1, k + 1, _, _, rfl, by go_num, by go_num, HF.out v3 w3 _ HE.out HB3.out⟩
          case measure => simp [Go.RowKit.intOf]; omega
        have n13 : ((s[k].toNat : Int) == 13) = false := by simp only [beq_eq_false_iff_ne]; omega
        by_cases h9 : s[k].toNat = 9
        · have hx : (s[k].toNat : Int) = 9 := by omega
          have HE : Hid (esc1 false s[k].toNat 1 [s[k]] = [92, 116]) := hide (by rw [h9]; simp [esc1])
          go_big_wp2_with (first
            | (at_builtin; refine wpList_bf_new rfl _ _ 22 rfl i0 Tryd.underlying22 hi hz0 hz1 hz2 w.heap.size w w2 v2 (acc ++ (s.data.toList.drop st).take (k - st)) [92, 116] _ HB2.out rfl rfl (by first | rfl | simp [bv, hx]) (by have := HXL.out; simp only [List.length_append, List.length_cons, List.length_nil]; omega) ?_; intro v3 w3 hb3; have HB3 := hide hb3; clear hb3)
            | (at_builtin; refine wpList_bf_text rfl _ _ 22 9 rfl i0 Tryd.underlying22 Tryd.underlying9 hi hz0 hz1 hz2 w.heap.size w wr v acc HA.out.bf rfl (s.extract st k) rfl (by rw [Lib.size_eq, HX.out]; have := HXL.out; omega) ?_; intro v2 w2 hb2; rw [HX.out] at hb2; have HB2 := hide hb2; clear hb2))
          go_roundw
          case rel => exact ⟨_, k + 1, k + 1, _, _, rfl, by go_num, by go_num, HF.out v3 w3 _ HE.out HB3.out⟩
          case measure => simp [Go.RowKit.intOf]; omega
        have n9 : ((s[k].toNat : Int) == 9) = false := by simp only [beq_eq_false_iff_ne]; omega
        by_cases hlow : s[k].toNat < 32
        · have hx : (s[k].toNat : Int) < 32 := by omega
          have HE : Hid (esc1 false s[k].toNat 1 [s[k]] = [92, 117, 48, 48, hexD (s[k].toNat / 16), hexD (s[k].toNat % 16)]) := hide (by
            unfold esc1
            rw [if_neg (by omega), if_neg (by omega), if_neg (by omega), if_neg (by omega), if_neg (by omega), if_neg (by simp), if_neg (by simp), if_pos (by omega)])
          have hd : Hid (_) := hide (hexIdx ((s[k].toNat : Int) / 16) (s[k].toNat / 16) (by omega) (by omega))
          have hm : Hid (_) := hide (hexIdx ((s[k].toNat : Int) % 16) (s[k].toNat % 16) (by omega) (by omega))
          have ha15 : Hid (bits .and .u8 (s[k].toNat : Int) 15 = (s[k].toNat : Int) % 16) := hide (u8_and15 _ (by omega) (by omega))
          have hq1 : (0 : Int) ≤ (s[k].toNat : Int) / 16 ∧ (s[k].toNat : Int) / 16 < 16 := by omega
          have hq2 : (0 : Int) ≤ (s[k].toNat : Int) % 16 ∧ (s[k].toNat : Int) % 16 < 16 := by omega
          go_big_wp2_with (at_builtin; refine wpList_bf_text rfl _ _ 22 9 rfl i0 Tryd.underlying22 Tryd.underlying9 hi hz0 hz1 hz2 w.heap.size w wr v acc HA.out.bf rfl (s.extract st k) rfl (by rw [Lib.size_eq, HX.out]; have := HXL.out; omega) ?_; intro v2 w2 hb2; rw [HX.out] at hb2; have HB2 := hide hb2; clear hb2)
          refine wp_region_any (by kernel_rfl) ?_
          change wpAny _ _ _ _ _ _ _ (World.drew _)
          refine wpAny_take (i := 0) (v := (v2)) rfl (by kernel_rfl) (by kernel_rfl) (by kernel_rfl) (fun _ _ _ h => h) (Or.inl ⟨by rfl, fun w => by (go_simp; try rfl)⟩) ?_
          refine wpAny_take (i := 1) (v := (.int .u8 (s[k].toNat : Int))) rfl (by kernel_rfl) (by kernel_rfl) (by kernel_rfl) (fun _ _ _ h => h) (Or.inl ⟨by rfl, fun w => by (go_simp; try rfl)⟩) ?_
          refine wpAny_take (i := 2) (v := (.int .u8 ((s[k].toNat : Int) / 16))) rfl (by kernel_rfl) (by kernel_rfl) (by kernel_rfl) (fun _ _ _ h => h) (Or.inl ⟨by rfl, fun w => by (go_simp; try rfl)⟩) ?_
          refine wpAny_take (i := 3) (v := (.int .u8 ((hexD (s[k].toNat / 16)).toNat : Int))) rfl (by kernel_rfl) (by kernel_rfl) (by kernel_rfl) (fun _ _ _ h => h) (Or.inl ⟨by rfl, fun w => by (go_simp; exact hd.out _)⟩) ?_
          refine wpAny_take (i := 4) (v := (.int .u8 (s[k].toNat : Int))) rfl (by kernel_rfl) (by kernel_rfl) (by kernel_rfl) (fun _ _ _ h => h) (Or.inl ⟨by rfl, fun w => by (go_simp; try rfl)⟩) ?_
          refine wpAny_take (i := 5) (v := (.int .u8 ((s[k].toNat : Int) % 16))) rfl (by kernel_rfl) (by kernel_rfl) (by kernel_rfl) (fun _ _ _ h => h) (Or.inl ⟨by rfl, fun w => by (go_simp; exact ha15.out)⟩) ?_
          refine wpAny_take (i := 6) (v := (.int .u8 ((hexD (s[k].toNat % 16)).toNat : Int))) rfl (by kernel_rfl) (by kernel_rfl) (by kernel_rfl) (fun _ _ _ h => h) (Or.inl ⟨by rfl, fun w => by (go_simp; exact hm.out _)⟩) ?_
          refine wpAny_ready (rs := [7]) (by kernel_rfl) (by simp) ?_
          refine AllReady.cons rfl (fun K hK => ?_) AllReady.nil
          go_simp
          refine hK _ _ ?_
          clear hK K
          refine wpAny_ready (rs := [8]) (by kernel_rfl) (by simp) ?_
          refine AllReady.cons rfl (fun K hK => ?_) AllReady.nil
          refine step_bf (by rfl) (.tmp 88) (.tmp 95) 22 (by rfl) i0 Tryd.underlying22 hi hz0 hz1 hz2 w.heap.size w v2 (acc ++ (s.data.toList.drop st).take (k - st)) [92, 117, 48, 48, hexD (s[k].toNat / 16), hexD (s[k].toNat % 16)] ((HB2.out.alloc _).of_heap rfl rfl rfl rfl) (by simp [Act.eval]) ⟨w2.heap.size, 0, none⟩ (by simp [Act.eval]) (new_cells w2 _ _ [92, 117, 48, 48, hexD (s[k].toNat / 16), hexD (s[k].toNat % 16)] (by rfl) (by rfl)) (by have := HXL.out; simp only [List.length_append, List.length_cons, List.length_nil]; omega) ?_; intro v3 w3 hb3; have HB3 := hide hb3; clear hb3
          refine hK _ _ ?_
          clear hK K
          refine wpAny_take (i := 9) (v := v3) rfl (by kernel_rfl) (by kernel_rfl) (by kernel_rfl) (fun _ _ _ h => h) (Or.inl ⟨by rfl, fun w => by (go_simp; try rfl)⟩) ?_
          refine wpAny_done (by kernel_rfl) ?_ _
          go_big_wp2_with (fail)
          go_roundw
          case rel => exact ⟨_, k + 1, k + 1, _, _, rfl, by go_num, by go_num, HF.out v3 w3 _ HE.out HB3.out⟩
          case measure => simp [Go.RowKit.intOf]; omega
        have HE : Hid (esc1 false s[k].toNat 1 [s[k]] = [s[k]]) := hide (by
          unfold esc1
          rw [if_neg (by omega), if_neg (by omega), if_neg (by omega), if_neg (by omega), if_neg (by omega), if_neg (by simp), if_neg (by simp), if_neg (by simp; omega), if_neg (by omega)])
        have hx : (32 : Int) ≤ (s[k].toNat : Int) := by omega
        have m34 : ((s[k].toNat : Int) != 34) = true := by simp only [bne, n34]; rfl
        have m92 : ((s[k].toNat : Int) != 92) = true := by simp only [bne, n92]; rfl
        go_big_wp2_with (fail)
        go_roundw
        case rel => exact ⟨_, st, k + 1, _, _, rfl, rfl, by go_num, HS.out HE.out HA.out.bf⟩
        case measure => simp [Go.RowKit.intOf]; omega
      · have kd := fun wn (h : Below w.heap.size w wn) => Tryd.utf8_DecodeRuneInString (s.extract k s.size) wn (Utf8Tabs_below hT h)
        rw [decodeGo_at s k hk] at kd
        have hst' := dec_step s k hk
        have hD1 := hst'.1
        have hD2 := hst'.2.1
        have HS := hide (fun (w2 : World) => HA.out.skip hk (wr' := w2))
        have HF := hide (fun (v2 : Value) (w2 : World) (new : List UInt8) => HA.out.flush hk (v' := v2) (wr' := w2) (new := new))
        have hr := rune_high (s.data.toList.drop k) (by rw [getD_dropU, Nat.add_zero, getD_get s k hk]; omega)
        rw [decodeL_drop] at hr
        have hR := decodeL_rune (s.data.toList.drop k)
        rw [decodeL_drop] at hR
        clear hst'
        generalize (Utf8.decode s k).1 = r at *
        generalize (Utf8.decode s k).2 = z at *
        by_cases h65533 : r = 65533 ∧ z = 1
        · obtain ⟨rfl, rfl⟩ := h65533
          have HE : Hid (esc1 false 65533 1 ((s.data.toList.drop k).take 1) = [92, 117, 102, 102, 102, 100]) := hide (by simp [esc1])
          have b0 : bits .and .i32 255 15 = 15 := by kernel_rfl
          have b1 : bits .and .i32 4095 15 = 15 := by kernel_rfl
          have b2 : bits .and .i32 65533 15 = 13 := by kernel_rfl
          go_big_wp2_with (first
            | (at_builtin; refine wpList_bf_text rfl _ _ 22 9 rfl i0 Tryd.underlying22 Tryd.underlying9 hi hz0 hz1 hz2 w.heap.size w w1 v acc HW.out rfl (s.extract st k) rfl (by rw [Lib.size_eq, HX.out]; have := HXL.out; omega) ?_; intro v2 w2 hb2; rw [HX.out] at hb2; have HB2 := hide hb2; clear hb2)
            | (go_at_call 16; refine (kd _ HA.out.bf.bel).mono ?_; rintro e w1 ⟨rfl, hb1⟩; have HW := hide (HA.out.bf.call hb1); clear hb1))
          refine wp_region_any (by kernel_rfl) ?_
          change wpAny _ _ _ _ _ _ _ (World.drew _)
          refine wpAny_take (i := 0) (v := (v2)) rfl (by kernel_rfl) (by kernel_rfl) (by kernel_rfl) (fun _ _ _ h => h) (Or.inl ⟨by rfl, fun w => by (go_simp; try rfl)⟩) ?_
          refine wpAny_take (i := 1) (v := (.int .i32 65533)) rfl (by kernel_rfl) (by kernel_rfl) (by kernel_rfl) (fun _ _ _ h => h) (Or.inl ⟨by rfl, fun w => by (go_simp; try rfl)⟩) ?_
          refine wpAny_take (i := 2) (v := (.int .i32 15)) rfl (by kernel_rfl) (by kernel_rfl) (by kernel_rfl) (fun _ _ _ h => h) (Or.inl ⟨by rfl, fun w => by (go_simp; try rfl)⟩) ?_
          refine wpAny_take (i := 3) (v := (.int .u8 102)) rfl (by kernel_rfl) (by kernel_rfl) (by kernel_rfl) (fun _ _ _ h => h) (Or.inl ⟨by rfl, fun w => by (go_simp; try rfl)⟩) ?_
          refine wpAny_take (i := 4) (v := (.int .i32 65533)) rfl (by kernel_rfl) (by kernel_rfl) (by kernel_rfl) (fun _ _ _ h => h) (Or.inl ⟨by rfl, fun w => by (go_simp; try rfl)⟩) ?_
          refine wpAny_take (i := 5) (v := (.int .i32 255)) rfl (by kernel_rfl) (by kernel_rfl) (by kernel_rfl) (fun _ _ _ h => h) (Or.inl ⟨by rfl, fun w => by (go_simp; try rfl)⟩) ?_
          refine wpAny_take (i := 6) (v := (.int .i32 15)) rfl (by kernel_rfl) (by kernel_rfl) (by kernel_rfl) (fun _ _ _ h => h) (Or.inl ⟨by rfl, fun w => by (go_simp; try rfl)⟩) ?_
          refine wpAny_take (i := 7) (v := (.int .u8 102)) rfl (by kernel_rfl) (by kernel_rfl) (by kernel_rfl) (fun _ _ _ h => h) (Or.inl ⟨by rfl, fun w => by (go_simp; try rfl)⟩) ?_
          refine wpAny_take (i := 8) (v := (.int .i32 65533)) rfl (by kernel_rfl) (by kernel_rfl) (by kernel_rfl) (fun _ _ _ h => h) (Or.inl ⟨by rfl, fun w => by (go_simp; try rfl)⟩) ?_
          refine wpAny_take (i := 9) (v := (.int .i32 4095)) rfl (by kernel_rfl) (by kernel_rfl) (by kernel_rfl) (fun _ _ _ h => h) (Or.inl ⟨by rfl, fun w => by (go_simp; try rfl)⟩) ?_
          refine wpAny_take (i := 10) (v := (.int .i32 15)) rfl (by kernel_rfl) (by kernel_rfl) (by kernel_rfl) (fun _ _ _ h => h) (Or.inl ⟨by rfl, fun w => by (go_simp; try rfl)⟩) ?_
          refine wpAny_take (i := 11) (v := (.int .u8 102)) rfl (by kernel_rfl) (by kernel_rfl) (by kernel_rfl) (fun _ _ _ h => h) (Or.inl ⟨by rfl, fun w => by (go_simp; try rfl)⟩) ?_
          refine wpAny_take (i := 12) (v := (.int .i32 65533)) rfl (by kernel_rfl) (by kernel_rfl) (by kernel_rfl) (fun _ _ _ h => h) (Or.inl ⟨by rfl, fun w => by (go_simp; try rfl)⟩) ?_
          refine wpAny_take (i := 13) (v := (.int .i32 13)) rfl (by kernel_rfl) (by kernel_rfl) (by kernel_rfl) (fun _ _ _ h => h) (Or.inl ⟨by rfl, fun w => by (go_simp; try rfl)⟩) ?_
          refine wpAny_take (i := 14) (v := (.int .u8 100)) rfl (by kernel_rfl) (by kernel_rfl) (by kernel_rfl) (fun _ _ _ h => h) (Or.inl ⟨by rfl, fun w => by (go_simp; try rfl)⟩) ?_
          refine wpAny_ready (rs := [15]) (by kernel_rfl) (by simp) ?_
          refine AllReady.cons rfl (fun K hK => ?_) AllReady.nil
          go_simp
          refine hK _ _ ?_
          clear hK K
          refine wpAny_ready (rs := [16]) (by kernel_rfl) (by simp) ?_
          refine AllReady.cons rfl (fun K hK => ?_) AllReady.nil
          refine step_bf (by rfl) (.tmp 46) (.tmp 61) 22 (by rfl) i0 Tryd.underlying22 hi hz0 hz1 hz2 w.heap.size w v2 (acc ++ (s.data.toList.drop st).take (k - st)) [92, 117, 102, 102, 102, 100] ((HB2.out.alloc _).of_heap rfl rfl rfl rfl) (by simp [Act.eval]) ⟨w2.heap.size, 0, none⟩ (by simp [Act.eval]) (new_cells w2 _ _ [92, 117, 102, 102, 102, 100] (by rfl) (by rfl)) (by have := HXL.out; simp only [List.length_append, List.length_cons, List.length_nil]; omega) ?_; intro v3 w3 hb3; have HB3 := hide hb3; clear hb3
          refine hK _ _ ?_
          clear hK K
          refine wpAny_take (i := 17) (v := v3) rfl (by kernel_rfl) (by kernel_rfl) (by kernel_rfl) (fun _ _ _ h => h) (Or.inl ⟨by rfl, fun w => by (go_simp; try rfl)⟩) ?_
          refine wpAny_done (by kernel_rfl) ?_ _
          go_big_wp2_with (fail)
          go_roundw
          case rel => exact ⟨_, k + 1, k + 1, _, _, rfl, by go_num, by go_num, HF.out v3 w3 _ HE.out HB3.out⟩
          case measure => simp [Go.RowKit.intOf]; omega
        by_cases h8232 : r = 8232
        · subst h8232
          have HE : Hid (esc1 false 8232 z ((s.data.toList.drop k).take z) = [92, 117, 50, 48, 50, 56]) := hide (by simp [esc1, hexD])
          have b0 : bits .and .i32 32 15 = 0 := by kernel_rfl
          have b1 : bits .and .i32 514 15 = 2 := by kernel_rfl
          have b2 : bits .and .i32 8232 15 = 8 := by kernel_rfl
          go_big_wp2_with (first
            | (at_builtin; refine wpList_bf_text rfl _ _ 22 9 rfl i0 Tryd.underlying22 Tryd.underlying9 hi hz0 hz1 hz2 w.heap.size w w1 v acc HW.out rfl (s.extract st k) rfl (by rw [Lib.size_eq, HX.out]; have := HXL.out; omega) ?_; intro v2 w2 hb2; rw [HX.out] at hb2; have HB2 := hide hb2; clear hb2)
            | (go_at_call 16; refine (kd _ HA.out.bf.bel).mono ?_; rintro e w1 ⟨rfl, hb1⟩; have HW := hide (HA.out.bf.call hb1); clear hb1))
          refine wp_region_any (by kernel_rfl) ?_
          change wpAny _ _ _ _ _ _ _ (World.drew _)
          refine wpAny_take (i := 0) (v := (v2)) rfl (by kernel_rfl) (by kernel_rfl) (by kernel_rfl) (fun _ _ _ h => h) (Or.inl ⟨by rfl, fun w => by (go_simp; try rfl)⟩) ?_
          refine wpAny_take (i := 1) (v := (.int .i32 8232)) rfl (by kernel_rfl) (by kernel_rfl) (by kernel_rfl) (fun _ _ _ h => h) (Or.inl ⟨by rfl, fun w => by (go_simp; try rfl)⟩) ?_
          refine wpAny_take (i := 2) (v := (.int .i32 2)) rfl (by kernel_rfl) (by kernel_rfl) (by kernel_rfl) (fun _ _ _ h => h) (Or.inl ⟨by rfl, fun w => by (go_simp; try rfl)⟩) ?_
          refine wpAny_take (i := 3) (v := (.int .u8 50)) rfl (by kernel_rfl) (by kernel_rfl) (by kernel_rfl) (fun _ _ _ h => h) (Or.inl ⟨by rfl, fun w => by (go_simp; try rfl)⟩) ?_
          refine wpAny_take (i := 4) (v := (.int .i32 8232)) rfl (by kernel_rfl) (by kernel_rfl) (by kernel_rfl) (fun _ _ _ h => h) (Or.inl ⟨by rfl, fun w => by (go_simp; try rfl)⟩) ?_
          refine wpAny_take (i := 5) (v := (.int .i32 32)) rfl (by kernel_rfl) (by kernel_rfl) (by kernel_rfl) (fun _ _ _ h => h) (Or.inl ⟨by rfl, fun w => by (go_simp; try rfl)⟩) ?_
          refine wpAny_take (i := 6) (v := (.int .i32 0)) rfl (by kernel_rfl) (by kernel_rfl) (by kernel_rfl) (fun _ _ _ h => h) (Or.inl ⟨by rfl, fun w => by (go_simp; try rfl)⟩) ?_
          refine wpAny_take (i := 7) (v := (.int .u8 48)) rfl (by kernel_rfl) (by kernel_rfl) (by kernel_rfl) (fun _ _ _ h => h) (Or.inl ⟨by rfl, fun w => by (go_simp; try rfl)⟩) ?_
          refine wpAny_take (i := 8) (v := (.int .i32 8232)) rfl (by kernel_rfl) (by kernel_rfl) (by kernel_rfl) (fun _ _ _ h => h) (Or.inl ⟨by rfl, fun w => by (go_simp; try rfl)⟩) ?_
          refine wpAny_take (i := 9) (v := (.int .i32 514)) rfl (by kernel_rfl) (by kernel_rfl) (by kernel_rfl) (fun _ _ _ h => h) (Or.inl ⟨by rfl, fun w => by (go_simp; try rfl)⟩) ?_
          refine wpAny_take (i := 10) (v := (.int .i32 2)) rfl (by kernel_rfl) (by kernel_rfl) (by kernel_rfl) (fun _ _ _ h => h) (Or.inl ⟨by rfl, fun w => by (go_simp; try rfl)⟩) ?_
          refine wpAny_take (i := 11) (v := (.int .u8 50)) rfl (by kernel_rfl) (by kernel_rfl) (by kernel_rfl) (fun _ _ _ h => h) (Or.inl ⟨by rfl, fun w => by (go_simp; try rfl)⟩) ?_
          refine wpAny_take (i := 12) (v := (.int .i32 8232)) rfl (by kernel_rfl) (by kernel_rfl) (by kernel_rfl) (fun _ _ _ h => h) (Or.inl ⟨by rfl, fun w => by (go_simp; try rfl)⟩) ?_
          refine wpAny_take (i := 13) (v := (.int .i32 8)) rfl (by kernel_rfl) (by kernel_rfl) (by kernel_rfl) (fun _ _ _ h => h) (Or.inl ⟨by rfl, fun w => by (go_simp; try rfl)⟩) ?_
          refine wpAny_take (i := 14) (v := (.int .u8 56)) rfl (by kernel_rfl) (by kernel_rfl) (by kernel_rfl) (fun _ _ _ h => h) (Or.inl ⟨by rfl, fun w => by (go_simp; try rfl)⟩) ?_
          refine wpAny_ready (rs := [15]) (by kernel_rfl) (by simp) ?_
          refine AllReady.cons rfl (fun K hK => ?_) AllReady.nil
          go_simp
          refine hK _ _ ?_
          clear hK K
          refine wpAny_ready (rs := [16]) (by kernel_rfl) (by simp) ?_
          refine AllReady.cons rfl (fun K hK => ?_) AllReady.nil
          refine step_bf (by rfl) (.tmp 46) (.tmp 61) 22 (by rfl) i0 Tryd.underlying22 hi hz0 hz1 hz2 w.heap.size w v2 (acc ++ (s.data.toList.drop st).take (k - st)) [92, 117, 50, 48, 50, 56] ((HB2.out.alloc _).of_heap rfl rfl rfl rfl) (by simp [Act.eval]) ⟨w2.heap.size, 0, none⟩ (by simp [Act.eval]) (new_cells w2 _ _ [92, 117, 50, 48, 50, 56] (by rfl) (by rfl)) (by have := HXL.out; simp only [List.length_append, List.length_cons, List.length_nil]; omega) ?_; intro v3 w3 hb3; have HB3 := hide hb3; clear hb3
          refine hK _ _ ?_
          clear hK K
          refine wpAny_take (i := 17) (v := v3) rfl (by kernel_rfl) (by kernel_rfl) (by kernel_rfl) (fun _ _ _ h => h) (Or.inl ⟨by rfl, fun w => by (go_simp; try rfl)⟩) ?_
          refine wpAny_done (by kernel_rfl) ?_ _
          go_big_wp2_with (fail)
          go_roundw
          case rel => exact ⟨_, k + z, k + z, _, _, rfl, by go_num, by go_num, HF.out v3 w3 _ HE.out HB3.out⟩
          case measure => simp [Go.RowKit.intOf]; omega
        by_cases h8233 : r = 8233
        · subst h8233
          have HE : Hid (esc1 false 8233 z ((s.data.toList.drop k).take z) = [92, 117, 50, 48, 50, 57]) := hide (by simp [esc1, hexD])
          have b0 : bits .and .i32 32 15 = 0 := by kernel_rfl
          have b1 : bits .and .i32 514 15 = 2 := by kernel_rfl
          have b2 : bits .and .i32 8233 15 = 9 := by kernel_rfl
          go_big_wp2_with (first
            | (at_builtin; refine wpList_bf_text rfl _ _ 22 9 rfl i0 Tryd.underlying22 Tryd.underlying9 hi hz0 hz1 hz2 w.heap.size w w1 v acc HW.out rfl (s.extract st k) rfl (by rw [Lib.size_eq, HX.out]; have := HXL.out; omega) ?_; intro v2 w2 hb2; rw [HX.out] at hb2; have HB2 := hide hb2; clear hb2)
            | (go_at_call 16; refine (kd _ HA.out.bf.bel).mono ?_; rintro e w1 ⟨rfl, hb1⟩; have HW := hide (HA.out.bf.call hb1); clear hb1))
          refine wp_region_any (by kernel_rfl) ?_
          change wpAny _ _ _ _ _ _ _ (World.drew _)
          refine wpAny_take (i := 0) (v := (v2)) rfl (by kernel_rfl) (by kernel_rfl) (by kernel_rfl) (fun _ _ _ h => h) (Or.inl ⟨by rfl, fun w => by (go_simp; try rfl)⟩) ?_
          refine wpAny_take (i := 1) (v := (.int .i32 8233)) rfl (by kernel_rfl) (by kernel_rfl) (by kernel_rfl) (fun _ _ _ h => h) (Or.inl ⟨by rfl, fun w => by (go_simp; try rfl)⟩) ?_
          refine wpAny_take (i := 2) (v := (.int .i32 2)) rfl (by kernel_rfl) (by kernel_rfl) (by kernel_rfl) (fun _ _ _ h => h) (Or.inl ⟨by rfl, fun w => by (go_simp; try rfl)⟩) ?_
          refine wpAny_take (i := 3) (v := (.int .u8 50)) rfl (by kernel_rfl) (by kernel_rfl) (by kernel_rfl) (fun _ _ _ h => h) (Or.inl ⟨by rfl, fun w => by (go_simp; try rfl)⟩) ?_
          refine wpAny_take (i := 4) (v := (.int .i32 8233)) rfl (by kernel_rfl) (by kernel_rfl) (by kernel_rfl) (fun _ _ _ h => h) (Or.inl ⟨by rfl, fun w => by (go_simp; try rfl)⟩) ?_
          refine wpAny_take (i := 5) (v := (.int .i32 32)) rfl (by kernel_rfl) (by kernel_rfl) (by kernel_rfl) (fun _ _ _ h => h) (Or.inl ⟨by rfl, fun w => by (go_simp; try rfl)⟩) ?_
          refine wpAny_take (i := 6) (v := (.int .i32 0)) rfl (by kernel_rfl) (by kernel_rfl) (by kernel_rfl) (fun _ _ _ h => h) (Or.inl ⟨by rfl, fun w => by (go_simp; try rfl)⟩) ?_
          refine wpAny_take (i := 7) (v := (.int .u8 48)) rfl (by kernel_rfl) (by kernel_rfl) (by kernel_rfl) (fun _ _ _ h => h) (Or.inl ⟨by rfl, fun w => by (go_simp; try rfl)⟩) ?_
          refine wpAny_take (i := 8) (v := (.int .i32 8233)) rfl (by kernel_rfl) (by kernel_rfl) (by kernel_rfl) (fun _ _ _ h => h) (Or.inl ⟨by rfl, fun w => by (go_simp; try rfl)⟩) ?_
          refine wpAny_take (i := 9) (v := (.int .i32 514)) rfl (by kernel_rfl) (by kernel_rfl) (by kernel_rfl) (fun _ _ _ h => h) (Or.inl ⟨by rfl, fun w => by (go_simp; try rfl)⟩) ?_
          refine wpAny_take (i := 10) (v := (.int .i32 2)) rfl (by kernel_rfl) (by kernel_rfl) (by kernel_rfl) (fun _ _ _ h => h) (Or.inl ⟨by rfl, fun w => by (go_simp; try rfl)⟩) ?_
          refine wpAny_take (i := 11) (v := (.int .u8 50)) rfl (by kernel_rfl) (by kernel_rfl) (by kernel_rfl) (fun _ _ _ h => h) (Or.inl ⟨by rfl, fun w => by (go_simp; try rfl)⟩) ?_
          refine wpAny_take (i := 12) (v := (.int .i32 8233)) rfl (by kernel_rfl) (by kernel_rfl) (by kernel_rfl) (fun _ _ _ h => h) (Or.inl ⟨by rfl, fun w => by (go_simp; try rfl)⟩) ?_
          refine wpAny_take (i := 13) (v := (.int .i32 9)) rfl (by kernel_rfl) (by kernel_rfl) (by kernel_rfl) (fun _ _ _ h => h) (Or.inl ⟨by rfl, fun w => by (go_simp; try rfl)⟩) ?_
          refine wpAny_take (i := 14) (v := (.int .u8 57)) rfl (by kernel_rfl) (by kernel_rfl) (by kernel_rfl) (fun _ _ _ h => h) (Or.inl ⟨by rfl, fun w => by (go_simp; try rfl)⟩) ?_
          refine wpAny_ready (rs := [15]) (by kernel_rfl) (by simp) ?_
          refine AllReady.cons rfl (fun K hK => ?_) AllReady.nil
          go_simp
          refine hK _ _ ?_
          clear hK K
          refine wpAny_ready (rs := [16]) (by kernel_rfl) (by simp) ?_
          refine AllReady.cons rfl (fun K hK => ?_) AllReady.nil
          refine step_bf (by rfl) (.tmp 46) (.tmp 61) 22 (by rfl) i0 Tryd.underlying22 hi hz0 hz1 hz2 w.heap.size w v2 (acc ++ (s.data.toList.drop st).take (k - st)) [92, 117, 50, 48, 50, 57] ((HB2.out.alloc _).of_heap rfl rfl rfl rfl) (by simp [Act.eval]) ⟨w2.heap.size, 0, none⟩ (by simp [Act.eval]) (new_cells w2 _ _ [92, 117, 50, 48, 50, 57] (by rfl) (by rfl)) (by have := HXL.out; simp only [List.length_append, List.length_cons, List.length_nil]; omega) ?_; intro v3 w3 hb3; have HB3 := hide hb3; clear hb3
          refine hK _ _ ?_
          clear hK K
          refine wpAny_take (i := 17) (v := v3) rfl (by kernel_rfl) (by kernel_rfl) (by kernel_rfl) (fun _ _ _ h => h) (Or.inl ⟨by rfl, fun w => by (go_simp; try rfl)⟩) ?_
          refine wpAny_done (by kernel_rfl) ?_ _
          go_big_wp2_with (fail)
          go_roundw
          case rel => exact ⟨_, k + z, k + z, _, _, rfl, by go_num, by go_num, HF.out v3 w3 _ HE.out HB3.out⟩
          case measure => simp [Go.RowKit.intOf]; omega
        have HE : Hid (esc1 false r z ((s.data.toList.drop k).take z) = (s.data.toList.drop k).take z) := hide (by
          unfold esc1
          rw [if_neg h65533, if_neg (by omega), if_neg (by omega), if_neg (by omega), if_neg (by omega), if_neg (by simp), if_neg (by simp), if_neg (by simp; omega), if_neg (by omega)])
        have q1 : ((r : Int) == 8232) = false := by simp only [beq_eq_false_iff_ne]; omega
        have q2 : ((r : Int) == 8233) = false := by simp only [beq_eq_false_iff_ne]; omega
        by_cases hff : r = 65533
        · subst hff
          have q3 : ((z : Int) == 1) = false := by simp only [beq_eq_false_iff_ne]; intro e; exact h65533 ⟨rfl, by omega⟩
          clear h65533 h8232 h8233
          go_big_wp2_with (go_at_call 16; refine (kd _ HA.out.bf.bel).mono ?_; rintro e w1 ⟨rfl, hb1⟩; have HW := hide (HA.out.bf.call hb1); clear hb1)
          go_roundw
          case rel => exact ⟨_, st, k + z, _, _, rfl, rfl, by go_num, HS.out w1 HE.out HW.out⟩
          case measure => simp [Go.RowKit.intOf]; omega
        · have q3 : ((r : Int) == 65533) = false := by simp only [beq_eq_false_iff_ne]; omega
          clear h65533 h8232 h8233 hff
          go_big_wp2_with (go_at_call 16; refine (kd _ HA.out.bf.bel).mono ?_; rintro e w1 ⟨rfl, hb1⟩; have HW := hide (HA.out.bf.call hb1); clear hb1)
          go_roundw
          case rel => exact ⟨_, st, k + z, _, _, rfl, rfl, by go_num, HS.out w1 HE.out HW.out⟩
          case measure => simp [Go.RowKit.intOf]; omega
    · have HA := hide h
      have HX : Hid ((s.extract st s.size).data.toList = s.data.toList.drop st) := hide (by
        rw [extract_list, List.take_of_length_le]
        rw [List.length_drop, ← Lib.size_eq]
        omega)
      clear h
      go_big_wp2_with (at_builtin; refine wpList_bf_text rfl _ _ 22 9 rfl i0 Tryd.underlying22 Tryd.underlying9 hi hz0 hz1 hz2 w.heap.size w wr v acc HA.out.bf rfl (s.extract st s.size) rfl (by rw [Lib.size_eq, HX.out, List.length_drop, ← Lib.size_eq]; omega) ?_; intro v2 w2 hb2; rw [HX.out] at hb2; have HB2 := hide hb2; clear hb2)
      go_ret
      exact ⟨_, rfl, HA.out.fin hk HB2.out⟩

end Go.Proofs.Qxb6608953aDoor
