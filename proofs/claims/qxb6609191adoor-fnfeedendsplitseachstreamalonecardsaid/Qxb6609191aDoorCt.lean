/-
  Seat b6609191aD: zzConcat, zzTrailing, zzBytesEqual.
-/
import Derived.Test.Qxb6609191aDoorRc
namespace Go.Proofs.Qxb6609191aDoor
open Go.RowKit Go.Lib

/-- append(out, c): the slice of one byte is new. -/
theorem wpList_push5 {ops : Array Oper} {rest : List Oper} {w0 : World} {o : Oper} {a : Act} {Q : Exit → Act → World → Prop} (hgd : o.guard = none) (s y : Operand)
    (ho : o.op = .call { callee := .builtin .append, args := #[s, y], argTypes := #[22, 22] }) (W0 : World) (v : Value) (l : List UInt8) (c : UInt8) (cs : Array Value)
    (hs : a.eval s = v) (hy : a.eval y = .slice (some ⟨w0.heap.size, 0, none⟩) 1 1) (hb : Below W0.heap.size W0 w0) (hown : w0.ownsRow W0.heap.size 5 1 v l.length (l.map bv)) (hcs : cs = #[bv c]) (hlen : l.length ≤ 4194304)
    (h : ∀ v' w', w'.ownsRow W0.heap.size 5 1 v' (l ++ [c]).length ((l ++ [c]).map bv) → Below W0.heap.size W0 w' → wpList Tryd.prog ops Q rest (a.put o.dst v') w') : wpList Tryd.prog ops Q (o :: rest) a (w0.alloc (.cells cs 5)) := by
  subst hcs
  have hb1 : Below w0.heap.size w0 (w0.alloc (.cells #[bv c] 5)) := (Below.refl _ _).alloc (Nat.le_refl _) _
  have hb2 : Below W0.heap.size W0 (w0.alloc (.cells #[bv c] 5)) := hb.trans (hb1.mono hb.size)
  have hr : Rb (w0.alloc (.cells #[bv c] 5)) none (.slice (some ⟨w0.heap.size, 0, none⟩) 1 1) [c] := by
    refine ⟨_, 1, rfl, Nat.le_refl _, .inr ⟨_, _, rfl, .inr ⟨by simp, _, heap_alloc_new w0 _, fun i hi => ?_⟩⟩⟩
    have : i = 0 := by simp at hi; exact hi
    subst this
    rfl
  refine wpList_app5 hgd s y ho W0.heap.size v _ l [c] none hs hy (below_own hb1 hown) hr (by simp only [List.length_cons, List.length_nil]; omega) hb2.size fun v' w' h1 h2 _ => ?_
  refine h v' w' h1 (hb2.grown h2 hb2.size (fun k hk => ?_))
  exact (hown.lt k hk).1

theorem get_of_block {w : World} {x : Option Nat} {v : Value} {l : List UInt8} (h : Rb w x v l) {i : Nat} (hi : i < l.length) :
    ∃ b off cap, v = .slice (some ⟨b, off, none⟩) l.length cap ∧ l.length ≤ cap ∧ w.cell? ⟨b, off + i, none⟩ = some (.int .u8 ((l.getD i 0).toNat : Int)) := by
  obtain ⟨b, off, cap, h1, h2, _, _, h3⟩ := h.at (fun e => by rw [e] at hi; simp at hi)
  exact ⟨b, off, cap, h1, h2, h3 i hi⟩

theorem take_getD (l : List UInt8) (i : Nat) (hi : i < l.length) : l.take i ++ [l.getD i 0] = l.take (i + 1) := by
  rw [List.take_add_one, List.getElem?_eq_getElem hi, List.getD_eq_getElem?_getD, List.getElem?_eq_getElem hi]
  rfl

set_option maxHeartbeats 8000000 in
set_option maxRecDepth 100000 in
theorem zzConcat19 (x y : Option Nat) (va vb : Value) (l m : List UInt8) (w : World) (hl : Rb w x va l) (hm : Rb w y vb m) (hlen : l.length + m.length ≤ 4194304) :
    Calls Tryd.prog 19 #[va, vb] w fun e w' => ∃ v', e = .returned v' ∧ w'.ownsRow w.heap.size 5 1 v' (l ++ m).length ((l ++ m).map bv) ∧ Below w.heap.size w w' := by
  have HL := Shut.mk hl
  have HM := Shut.mk hm
  obtain ⟨ad, cap, rfl, hcap⟩ := hl.val
  obtain ⟨ad2, cap2, rfl, hcap2⟩ := hm.val
  clear hl hm
  obtain ⟨i0, hi, hz0, hz1, hz2⟩ := info_parts Tryd.info5
  go_enter Tryd.func19, Tryd.ntmps19
  go_wp2_with (at_make; refine wpList_make_own _ rfl _ _ 22 rfl w.heap.size 5 i0 (.int .u8 0) 1 Tryd.underlying22 hi hz0 hz1 _ _ _ (l.length + m.length) rfl rfl (by omega) (by rw [hz2]; omega) (by unfold maxLen; omega) (Nat.le_refl _) ?_; rintro w1 ho1 hg1)
  have hb1 : Below w.heap.size w w1 := (Below.refl _ _).grown hg1 (Nat.le_refl _) (fun k hk => by cases hk)
  clear hg1
  refine wp_loop_ghost_k (fun g a w' => Fr a 41 ∧ sl a 0 = .slice ad l.length cap ∧ sl a 1 = .slice ad2 m.length cap2 ∧ Below w.heap.size w w' ∧ ∃ i : Nat, sl a 6 = .int .i64 i ∧ i + g = l.length ∧ w'.ownsRow w.heap.size 5 1 (sl a 5) (l.take i).length ((l.take i).map bv)) l.length ?_ ?_
  · exact ⟨⟨rfl, rfl⟩, rfl, rfl, hb1, 0, rfl, by omega, ho1⟩
  clear hb1 ho1
  rintro g a wr ⟨hf, s0, s1, hB, i, s6, hig, hown⟩ J1 K1 hJ1 hK1
  obtain ⟨u, hu, ha⟩ := frame41 a hf
  rw [hu] at s0 s1 s6 hown
  subst ha
  clear hf hu
  simp only [s0, s1, s6]
  clear s0 s1 s6
  have HO := Shut.mk hown
  obtain ⟨ad5, cap5, h5, _⟩ := (owns_reads hown none (fun _ _ h => by cases h)).val
  rw [h5] at HO
  rw [h5]
  clear hown
  by_cases hil : i < l.length
  case neg =>
    have hil2 : i = l.length := by omega
    have HO2 : Shut (wr.ownsRow w.heap.size 5 1 (.slice ad5 (l.take i).length cap5) (l ++ m.take 0).length ((l ++ m.take 0).map bv)) := ⟨by
      have := HO.out
      rw [List.take_of_length_le (show l.length ≤ i by omega)] at this
      rw [List.take_of_length_le (show l.length ≤ i by omega), List.take_zero, List.append_nil]
      exact this⟩
    clear HO h5
    generalize (l.take i).length = n5 at *
    go_wp2
    refine wp_loop_ghost_k (fun g a w' => Fr a 41 ∧ sl a 1 = .slice ad2 m.length cap2 ∧ Below w.heap.size w w' ∧ ∃ i : Nat, sl a 7 = .int .i64 i ∧ i + g = m.length ∧ w'.ownsRow w.heap.size 5 1 (sl a 5) (l ++ m.take i).length ((l ++ m.take i).map bv)) m.length ?_ ?_
    · exact ⟨⟨rfl, rfl⟩, rfl, hB, 0, rfl, by omega, HO2.out⟩
    clear HO2 hB hig hil hil2
    rintro g a wr ⟨hf, s1, hB, i, s7, hig, hown⟩ J1 K1 hJ1 hK1
    obtain ⟨u, hu, ha⟩ := frame41 a hf
    rw [hu] at s1 s7 hown
    subst ha
    clear hf hu
    simp only [s1, s7]
    clear s1 s7
    have HO := Shut.mk hown
    obtain ⟨ad5, cap5, h5, _⟩ := (owns_reads hown none (fun _ _ h => by cases h)).val
    rw [h5] at HO
    rw [h5]
    clear hown h5
    have HN := Shut.mk (show (l ++ m.take i).length ≤ 4194304 by rw [List.length_append, List.length_take]; omega)
    by_cases hil : i < m.length
    case neg =>
      have hil2 : i = m.length := by omega
      generalize hn5 : (l ++ m.take i).length = n5 at *
      go_wp2
      go_ret
      refine ⟨_, rfl, ?_, hB⟩
      have := HO.out
      rw [← hn5, List.take_of_length_le (show m.length ≤ i by omega)] at this
      rw [← hn5, List.take_of_length_le (show m.length ≤ i by omega)]
      exact this
    case pos =>
      obtain ⟨bb, off, cp, hv, hcp, c0⟩ := get_of_block (below_rb hB HM.out) hil
      injection hv with hv _ hv3
      subst hv hv3
      obtain ⟨c, hcd⟩ : ∃ c, m.getD i 0 = c := ⟨_, rfl⟩
      rw [hcd] at c0
      have CD := Shut.mk hcd
      clear hcd
      obtain ⟨L, hL⟩ : ∃ L, l ++ m.take i = L := ⟨_, rfl⟩
      rw [hL] at HO HN ⊢
      have HLL := Shut.mk hL
      clear hL
      have clt := c.toNat_lt
      go_wp2_with (at_builtin; refine wpList_push5 rfl _ _ rfl w (.slice ad5 L.length cap5) L c _ rfl rfl hB HO.out rfl HN.out ?_; rintro v6 w6 ho6 hb6; have HO6 := Shut.mk (And.intro ho6 hb6); clear ho6 hb6)
      refine Handed.intro (g - 1) (by omega) (hJ1 _ _ _ ?_)
      refine ⟨⟨rfl, rfl⟩, rfl, HO6.out.2, i + 1, by go_num, by omega, ?_⟩
      have h6 := HO6.out.1
      rw [← HLL.out, List.append_assoc, ← CD.out, take_getD m i hil] at h6
      exact h6
  case pos =>
    have HN := Shut.mk (show (l.take i).length ≤ 4194304 by rw [List.length_take]; omega)
    obtain ⟨bb, off, cp, hv, hcp, c0⟩ := get_of_block (below_rb hB HL.out) hil
    injection hv with hv _ hv3
    subst hv hv3
    obtain ⟨c, hcd⟩ : ∃ c, l.getD i 0 = c := ⟨_, rfl⟩
    rw [hcd] at c0
    have CD := Shut.mk hcd
    clear hcd h5
    obtain ⟨L, hL⟩ : ∃ L, l.take i = L := ⟨_, rfl⟩
    rw [hL] at HO HN ⊢
    have HLL := Shut.mk hL
    clear hL
    have clt := c.toNat_lt
    go_wp2_with (at_builtin; refine wpList_push5 rfl _ _ rfl w (.slice ad5 L.length cap5) L c _ rfl rfl hB HO.out rfl HN.out ?_; rintro v6 w6 ho6 hb6; have HO6 := Shut.mk (And.intro ho6 hb6); clear ho6 hb6)
    refine Handed.intro (g - 1) (by omega) (hJ1 _ _ _ ?_)
    refine ⟨⟨rfl, rfl⟩, rfl, rfl, HO6.out.2, i + 1, by go_num, by omega, ?_⟩
    have h6 := HO6.out.1
    rw [← HLL.out, ← CD.out, take_getD l i hil] at h6
    exact h6

end Go.Proofs.Qxb6609191aDoor
