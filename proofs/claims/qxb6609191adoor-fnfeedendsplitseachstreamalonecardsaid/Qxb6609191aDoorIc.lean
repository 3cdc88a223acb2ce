/-
  Seat b6609191aD: bytes.IndexAny at "\r\n": two to eight bytes.
-/
import Derived.Test.Qxb6609191aDoorIb
import Derived.Test.Qxb6609191aDoorDec
namespace Go.Proofs.Qxb6609191aDoor
open Go.RowKit Go.Lib

theorem dec_at (p : List UInt8) (i b off cap : Nat) (w : World) (hT : Lib.Utf8Tabs 1 2 w) (hi : i < p.length)
    (hc : ∀ j, j < p.length → w.cell? ⟨b, off + j, none⟩ = some (bv (p.getD j 0))) (h128 : 128 ≤ (p.getD i 0).toNat) :
    ∃ r k : Nat, (Calls Tryd.prog 42 #[.slice (some ⟨b, off + i, none⟩) (p.length - i) cap] w fun e w' => e = .returned (.tuple #[.int .i32 (r : Int), .int .i64 (k : Int)]) ∧ Below w.heap.size w w') ∧
      1 ≤ k ∧ i + k ≤ p.length ∧ (∀ j, j < k → isE ((p.drop i).getD j 0) = false) ∧ 128 ≤ r ∧ r ≤ 1114111 ∧ (r = 65533 ∨ (k = 2 ∧ r ≠ 65533) ∨ (r ≠ 65533 ∧ 3 ≤ k ∧ k ≤ 4 ∧ (Utf8.encode (r : Int)).size = k)) := by
  have hne : p.drop i ≠ [] := fun h => by
    have := congrArg List.length h
    simp only [List.length_drop, List.length_nil] at this
    omega
  have h0 : 128 ≤ ((p.drop i).getD 0 0).toNat := by
    simp only [List.getD_eq_getElem?_getD, List.getElem?_drop, Nat.add_zero] at h128 ⊢
    exact h128
  obtain ⟨f1, f2, f3, f4, f5, f6⟩ := dec_facts (p.drop i) hne h0
  have hsz : (⟨(p.drop i).toArray⟩ : ByteArray).size = p.length - i := by
    show (p.drop i).toArray.size = _
    simp
  have hgo : decodeGo ⟨(p.drop i).toArray⟩ = decodeL (p.drop i) := by
    unfold decodeGo decodeL
    rw [hsz, if_neg (by omega)]
  have key := Tryd.utf8_DecodeRune ⟨(p.drop i).toArray⟩ b (off + i) cap w hT (fun j hj => by
    rw [hsz] at hj
    rw [Nat.add_assoc, hc (i + j) (by omega)]
    unfold bv
    congr 3
    have hj2 : j < (p.drop i).length := by rw [List.length_drop]; omega
    show _ = (ByteArray.get! ⟨(p.drop i).toArray⟩ j).toNat
    have : ByteArray.get! ⟨(p.drop i).toArray⟩ j = (p.drop i).getD j 0 := by
      show (p.drop i).toArray[j]! = _
      simp only [List.getD_eq_getElem?_getD, getElem!_def, List.getElem?_toArray]
      rw [List.getElem?_eq_getElem hj2]
      rfl
    rw [this]
    simp only [List.getD_eq_getElem?_getD, List.getElem?_drop])
  rw [hsz, hgo] at key
  rw [List.length_drop] at f2
  refine ⟨_, _, key, f1, by omega, f3, f4, f5, ?_⟩
  by_cases e : (decodeL (p.drop i)).1 = 65533
  · exact .inl e
  rcases f6 with h | h | ⟨h, h1, h2, h3⟩ | ⟨h, h1⟩
  · exact absurd h e
  · exact .inr (.inl ⟨h, e⟩)
  · refine .inr (.inr ⟨e, by omega, by omega, ?_⟩)
    rw [enc_size3 _ (by omega) (by omega) (by omega), h]
  · refine .inr (.inr ⟨e, by omega, by omega, ?_⟩)
    rw [enc_size4 _ (by omega) (by omega), h]

theorem below_cell0 {n : Nat} {w w' : World} (h : Below n w w') {p : Addr} {v : Value} (hp : p.block < n) (hc : w.cell? p = some v) : w'.cell? p = some v := by
  simp only [World.cell?] at hc ⊢
  rw [h.block _ hp]
  exact hc

theorem cell_lt {w : World} {p : Addr} {v : Value} (hc : w.cell? p = some v) : p.block < w.heap.size := by
  refine Nat.lt_of_not_le fun h => ?_
  simp only [World.cell?] at hc
  rw [Array.getElem?_eq_none h] at hc
  simp at hc

set_option maxHeartbeats 8000000 in
set_option maxRecDepth 100000 in
theorem index_short (x : Option Nat) (v : Value) (p : List UInt8) (w : World) (hr : Rb w x v p) (h2 : 2 ≤ p.length) (h8 : p.length ≤ 8) (hT : Lib.Utf8Tabs 1 2 w) (m : Int) (hm : w.cell? ⟨0, 0, none⟩ = some (.int .i64 m)) :
    Calls Tryd.prog 36 #[v, .string ⟨#[13, 10]⟩] w fun e w' => e = .returned (.int .i64 (firstE p)) ∧ Below w.heap.size w w' := by
  obtain ⟨b, off, cap, rfl, hcap, hxb, ⟨cur, hblk⟩, hcell⟩ := hr.at (fun h => by rw [h] at h2; simp at h2)
  have k39 := shouldUse p.length w
  rw [decide_eq_false (by omega)] at k39
  have HC := Shut.mk hcell
  have HT := Shut.mk hT
  clear hcell hT hr
  have hn1 : ((p.length : Int) == 1) = false := beq_eq_false_iff_ne.2 (by omega)
  have h00 := Shut.mk (cell_lt hm)
  have hb0 := Shut.mk (lt_of_heap hblk)
  have HM := Shut.mk hm
  clear hm hblk
  go_enter Tryd.func36, Tryd.ntmps36
  go_wp2_with (go_at_call 39; refine k39.mono ?_; rintro e w1 ⟨rfl, hw1⟩; rw [hw1]; clear hw1 w1)
  clear k39 hn1
  refine wp_loop_ghost_k (fun g a w' => Fr a 129 ∧ sl a 0 = .slice (some ⟨b, off, none⟩) p.length cap ∧ sl a 1 = .string ⟨#[13, 10]⟩ ∧ Below w.heap.size w w' ∧ ∃ i : Nat, sl a 12 = .int .i64 i ∧ g = p.length - i ∧ i ≤ p.length ∧ Before p i) p.length ?_ ?_
  · exact ⟨⟨rfl, rfl⟩, rfl, rfl, Below.refl _ _, 0, rfl, by omega, by omega, Before.zero p⟩
  rintro g a wr ⟨hf, s0, s1, hB, i, s12, rfl, hip, hbe⟩ J1 K1 hJ1 hK1
  obtain ⟨u, hu, ha⟩ := frame129 a hf
  rw [hu] at s0 s1 s12
  subst ha
  clear hf hu
  simp only [s0, s1, s12]
  clear s0 s1 s12
  have BE := Shut.mk hbe
  clear hbe
  by_cases hi : i < p.length
  case neg =>
    have hF := Shut.mk (firstE_none (fun j hj => BE.out j (by omega)) : firstE p = -1)
    go_wp2
    go_ret
    exact ⟨by rw [hF.out]; rfl, hB⟩
  have c0 := below_cell0 hB hb0.out (HC.out i hi)
  obtain ⟨c, hcd⟩ : ∃ c, p.getD i 0 = c := ⟨_, rfl⟩
  have clt := c.toNat_lt
  unfold bv at c0
  rw [hcd] at c0
  have CD := Shut.mk hcd
  clear hcd
  by_cases a1 : c.toNat < 128
  case pos =>
    cases hE : isE c with
    | true =>
      obtain ⟨k, hk0, hk⟩ := ext37_yes c wr hE
      have hF := Shut.mk (firstE_hit hi BE.out (by rw [CD.out]; exact hE))
      go_wp2
      go_ret
      exact ⟨by rw [hF.out]; rfl, hB⟩
    | false =>
      have hk := ext37_no c wr hE
      go_wp2
      refine Handed.intro (p.length - (i + 1)) (by omega) (hJ1 _ _ _ ?_)
      exact ⟨⟨rfl, rfl⟩, rfl, rfl, hB, i + 1, by go_num, rfl, by omega, BE.out.succ (by rw [CD.out]; exact hE)⟩
  obtain ⟨r, k, kd, hk1, hk2, hk3, hr1, hr2, hcase⟩ := dec_at p i b off (cap - i) wr (Utf8Tabs_below HT.out hB) hi (fun j hj => below_cell0 hB hb0.out (HC.out j hj)) (by rw [CD.out]; omega)
  have BK := Shut.mk (BE.out.add hk3)
  clear hk3
  rcases hcase with rfl | ⟨rfl, hr3⟩ | ⟨hr3, hk3, hk4, hsz⟩
  · go_wp2_with (go_at_call 42; refine kd.mono ?_; rintro e w1 ⟨rfl, hb1⟩; obtain ⟨W1, W2, n1, n2, n3, hb2⟩ := iter_rn w1)
    have HB : Shut (Below w.heap.size w W2) := ⟨(hB.trans (hb1.mono hB.size)).trans (hb2.mono (Nat.le_trans hB.size hb1.size))⟩
    clear hb1 hb2 kd
    refine wp_loop_rounds 3 ?_
    rw [rounds_succ]
    go_wp2
    rw [rounds_succ]
    go_wp2
    rw [rounds_succ]
    go_wp2
    refine Handed.intro (p.length - (i + k)) (by omega) (hJ1 _ _ _ ?_)
    exact ⟨⟨rfl, rfl⟩, rfl, rfl, HB.out, i + k, by go_num, rfl, by omega, BK.out⟩
  · have hne : ((r : Int) != 65533) = true := by rw [bne_iff_ne]; omega
    have enc : (([13, 10] : List UInt8) == (Utf8.encode (r : Int)).toList) = false := by
      have e := enc_ne (r : Int) (by omega)
      rw [show (⟨#[13, 10]⟩ : ByteArray).toList = [13, 10] from by rw [Go.ByteArray.toList_eq]] at e
      exact e
    go_wp2_with (go_at_call 42; refine kd.mono ?_; rintro e w1 ⟨rfl, hb1⟩)
    have HB : Shut (Below w.heap.size w w1) := ⟨hB.trans (hb1.mono hB.size)⟩
    clear hb1 kd
    refine Handed.intro (p.length - (i + 2)) (by omega) (hJ1 _ _ _ ?_)
    exact ⟨⟨rfl, rfl⟩, rfl, rfl, HB.out, i + 2, by go_num, rfl, by omega, BK.out⟩
  · have hne : ((r : Int) != 65533) = true := by rw [bne_iff_ne]; omega
    have h2k : ((2 : Int) == (k : Int)) = false := beq_eq_false_iff_ne.2 (by omega)
    by_cases hmk : (k : Int) ≤ m
    · have K43 : Shut (∀ W : World, W.cell? ⟨0, 0, none⟩ = some (.int .i64 m) → (callFunc 43 #[.string ⟨#[13, 10]⟩, .string (Utf8.encode (r : Int))]).run Tryd.prog W = .ok (.value (.int .i64 (-1))) W) := ⟨fun W hW => ext43 (Utf8.encode (r : Int)) W m hW (by omega) (by omega)⟩
      clear hsz
      go_wp2_with (go_at_call 42; refine kd.mono ?_; rintro e w1 ⟨rfl, hb1⟩; have hm1 := below_cell0 (hB.trans (hb1.mono hB.size)) h00.out HM.out; have k43 := K43.out w1 hm1)
      have HB : Shut (Below w.heap.size w w1) := ⟨hB.trans (hb1.mono hB.size)⟩
      clear hb1 kd k43
      refine Handed.intro (p.length - (i + k)) (by omega) (hJ1 _ _ _ ?_)
      exact ⟨⟨rfl, rfl⟩, rfl, rfl, HB.out, i + k, by go_num, rfl, by omega, BK.out⟩
    · have h13 : ((r : Int) == 13) = false := beq_eq_false_iff_ne.2 (by omega)
      have h10 : ((r : Int) == 10) = false := beq_eq_false_iff_ne.2 (by omega)
      clear hsz
      go_wp2_with (go_at_call 42; refine kd.mono ?_; rintro e w1 ⟨rfl, hb1⟩; have hm1 := below_cell0 (hB.trans (hb1.mono hB.size)) h00.out HM.out; obtain ⟨W1, W2, n1, n2, n3, hb2⟩ := iter_rn w1)
      have HB : Shut (Below w.heap.size w W2) := ⟨(hB.trans (hb1.mono hB.size)).trans (hb2.mono (Nat.le_trans hB.size hb1.size))⟩
      clear hb1 hb2 kd
      refine wp_loop_rounds 3 ?_
      rw [rounds_succ]
      go_wp2
      rw [rounds_succ]
      go_wp2
      rw [rounds_succ]
      go_wp2
      refine Handed.intro (p.length - (i + k)) (by omega) (hJ1 _ _ _ ?_)
      exact ⟨⟨rfl, rfl⟩, rfl, rfl, HB.out, i + k, by go_num, rfl, by omega, BK.out⟩

end Go.Proofs.Qxb6609191aDoor
