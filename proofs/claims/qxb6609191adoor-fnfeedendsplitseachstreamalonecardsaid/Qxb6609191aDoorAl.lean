/-
  Seat b6609191aD: zzAppendLists.
-/
import Derived.Test.Qxb6609191aDoorEq
namespace Go.Proofs.Qxb6609191aDoor
open Go.RowKit Go.Lib

theorem Rb.weak {w : World} {x : Option Nat} {v : Value} {l : List UInt8} (h : Rb w x v l) : Rb w Option.none v l := h.same fun _ _ _ _ => ⟨rfl, fun e => by cases e⟩

/-- append(list, line): the slice of one line is new. -/
theorem wpList_push22 {x : Option Nat} {ops : Array Oper} {rest : List Oper} {w0 : World} {o : Oper} {a : Act} {Q : Exit → Act → World → Prop} (hgd : o.guard = none) (s y : Operand)
    (ho : o.op = .call { callee := .builtin .append, args := #[s, y], argTypes := #[29, 29] }) (W0 : World) (v : Value) (LL : List (List UInt8)) (e : Value) (P : List UInt8) (cs : Array Value)
    (hs : a.eval s = v) (hy : a.eval y = .slice (some ⟨w0.heap.size, 0, none⟩) 1 1) (hb : Below W0.heap.size W0 w0) (hL : Ls W0.heap.size w0 x v LL) (he : Rb w0 x e P) (hcs : cs = #[e]) (hlen : LL.length ≤ 2000000)
    (h : ∀ v' w', Ls W0.heap.size w' x v' (LL ++ [P]) → Below W0.heap.size W0 w' → wpList Tryd.prog ops Q rest (a.put o.dst v') w') : wpList Tryd.prog ops Q (o :: rest) a (w0.alloc (.cells cs 22)) := by
  subst hcs
  obtain ⟨es, h1, h2⟩ := hL
  have hl : es.length = LL.length := by simpa using h1.1
  have hb1 : Below w0.heap.size w0 (w0.alloc (.cells #[e] 22)) := (Below.refl _ _).alloc (Nat.le_refl _) _
  have hb2 : Below W0.heap.size W0 (w0.alloc (.cells #[e] 22)) := hb.trans (hb1.mono hb.size)
  have he1 : e.oneCell' = true := by
    obtain ⟨ad, cap, rfl, _⟩ := he.val
    rfl
  have h1' := below_own hb1 h1
  rw [← hl] at h1'
  refine wpList_app22 hgd s y ho W0.heap.size v e es ⟨w0.heap.size, 0, none⟩ 1 hs hy h1' (cell_of_block (heap_alloc_new w0 _) rfl) he1 (by omega) hb2.size fun v' w' g1 g2 _ => ?_
  have same : ∀ (b : Nat) cur, w0.heap[b]? = some (.cells cur 5) → w'.heap[b]? = w0.heap[b]? := fun b cur hk => by
    have e1 : (w0.alloc (.cells #[e] 22)).heap[b]? = w0.heap[b]? := hb1.block b (lt_of_heap hk)
    rw [grown_same g2 (by rw [e1]; exact hk) (fun e2 => ?_), e1]
    obtain ⟨cur', hc', _⟩ := owns_block h1 e2
    exact absurd (typ_ne hk hc') (by decide)
  refine h v' w' ⟨es ++ [e], ?_, fun i hi => ?_⟩ (hb2.grown g2 hb2.size (fun k hk => (h1.lt k hk).1))
  · have : (LL ++ [P]).length = (es ++ [e]).length := by simp [hl]
    rw [this]
    exact g1
  · by_cases hi2 : i < LL.length
    · have e1 : (es ++ [e]).getD i undef = es.getD i undef := by
        simp only [List.getD_eq_getElem?_getD, List.getElem?_append_left (show i < es.length by omega)]
      have e2 : (LL ++ [P]).getD i [] = LL.getD i [] := by
        simp only [List.getD_eq_getElem?_getD, List.getElem?_append_left hi2]
      rw [e1, e2]
      exact (h2 i hi2).same fun b cur hk hx => ⟨same b cur hk, hx⟩
    · have hi3 : i = LL.length := by simp at hi; omega
      subst hi3
      have e1 : (es ++ [e]).getD LL.length undef = e := by simp [List.getD_eq_getElem?_getD, ← hl]
      have e2 : (LL ++ [P]).getD LL.length [] = P := by simp [List.getD_eq_getElem?_getD]
      rw [e1, e2]
      exact he.same fun b cur hk hx => ⟨same b cur hk, hx⟩

theorem takeL_getD (l : List (List UInt8)) (i : Nat) (hi : i < l.length) : l.take i ++ [l.getD i []] = l.take (i + 1) := by
  rw [List.take_add_one, List.getElem?_eq_getElem hi, List.getD_eq_getElem?_getD, List.getElem?_eq_getElem hi]
  rfl

set_option maxHeartbeats 8000000 in
set_option maxRecDepth 100000 in
theorem zzAppendLists21 (Na Nb : Nat) (x y : Option Nat) (va vb : Value) (A B : List (List UInt8)) (w : World) (hA : Ls Na w x va A) (hB : Ls Nb w y vb B) (hlen : A.length + B.length ≤ 1000000) :
    Calls Tryd.prog 21 #[va, vb] w fun e w' => ∃ v', e = .returned v' ∧ Ls w.heap.size w' none v' (A ++ B) ∧ Below w.heap.size w w' := by
  have HA := Shut.mk hA
  have HB := Shut.mk hB
  obtain ⟨ad, cap, rfl⟩ := hA.val
  obtain ⟨ad2, cap2, rfl⟩ := hB.val
  clear hA hB
  obtain ⟨i0, hi, hz0, hz1, hz2⟩ := info_parts Tryd.info22
  go_enter Tryd.func21, Tryd.ntmps21
  go_wp2_with (at_make; refine wpList_make_own _ rfl _ _ 29 rfl w.heap.size 22 i0 (.slice none 0 0) 1 Tryd.underlying29 hi hz0 hz1 _ _ _ (A.length + B.length) rfl rfl (by omega) (by rw [hz2]; omega) (by unfold maxLen; omega) (Nat.le_refl _) ?_; rintro w1 ho1 hg1)
  have hb1 : Below w.heap.size w w1 := (Below.refl _ _).grown hg1 (Nat.le_refl _) (fun k hk => by cases hk)
  clear hg1
  refine wp_loop_ghost_k (fun g a w' => Fr a 41 ∧ sl a 0 = .slice ad A.length cap ∧ sl a 1 = .slice ad2 B.length cap2 ∧ Below w.heap.size w w' ∧ ∃ i : Nat, sl a 6 = .int .i64 i ∧ i + g = A.length ∧ Ls w.heap.size w' none (sl a 5) (A.take i)) A.length ?_ ?_
  · exact ⟨⟨rfl, rfl⟩, rfl, rfl, hb1, 0, rfl, by omega, ⟨[], ho1, fun i hi => by simp at hi⟩⟩
  clear hb1 ho1
  rintro g a wr ⟨hf, s0, s1, hBw, i, s6, hig, hown⟩ J1 K1 hJ1 hK1
  obtain ⟨u, hu, ha⟩ := frame41 a hf
  rw [hu] at s0 s1 s6 hown
  subst ha
  clear hf hu
  simp only [s0, s1, s6]
  clear s0 s1 s6
  have HO := Shut.mk hown
  obtain ⟨ad5, cap5, h5⟩ := hown.val
  rw [h5] at HO
  rw [h5]
  clear hown h5
  by_cases hil : i < A.length
  case neg =>
    have hil2 : i = A.length := by omega
    have HO2 : Shut (Ls w.heap.size wr none (.slice ad5 (A.take i).length cap5) (A ++ B.take 0)) := ⟨by
      have := HO.out
      rw [List.take_of_length_le (show A.length ≤ i by omega)] at this
      rw [List.take_of_length_le (show A.length ≤ i by omega), List.take_zero, List.append_nil]
      exact this⟩
    clear HO
    generalize (A.take i).length = n5 at *
    go_wp2
    refine wp_loop_ghost_k (fun g a w' => Fr a 41 ∧ sl a 1 = .slice ad2 B.length cap2 ∧ Below w.heap.size w w' ∧ ∃ i : Nat, sl a 7 = .int .i64 i ∧ i + g = B.length ∧ Ls w.heap.size w' none (sl a 5) (A ++ B.take i)) B.length ?_ ?_
    · exact ⟨⟨rfl, rfl⟩, rfl, hBw, 0, rfl, by omega, HO2.out⟩
    clear HO2 hBw hig hil hil2
    rintro g a wr ⟨hf, s1, hBw, i, s7, hig, hown⟩ J1 K1 hJ1 hK1
    obtain ⟨u, hu, ha⟩ := frame41 a hf
    rw [hu] at s1 s7 hown
    subst ha
    clear hf hu
    simp only [s1, s7]
    clear s1 s7
    have HO := Shut.mk hown
    obtain ⟨ad5, cap5, h5⟩ := hown.val
    rw [h5] at HO
    rw [h5]
    clear hown h5
    have HN := Shut.mk (show (A ++ B.take i).length ≤ 2000000 by rw [List.length_append, List.length_take]; omega)
    obtain ⟨L, hL⟩ : ∃ L, A ++ B.take i = L := ⟨_, rfl⟩
    rw [hL] at HO HN ⊢
    have HLL := Shut.mk hL
    clear hL
    by_cases hil : i < B.length
    case neg =>
      have hil2 : i = B.length := by omega
      go_wp2
      go_ret
      refine ⟨_, rfl, ?_, hBw⟩
      have h9 := HLL.out
      rw [List.take_of_length_le (show B.length ≤ i by omega)] at h9
      rw [h9]
      exact HO.out
    case pos =>
      obtain ⟨ga, cpa, ea, hv, hcpa, c0, ra⟩ := (HB.out.below hBw (fun _ h => h)).get hil
      injection hv with hv _ hv3
      subst hv hv3
      obtain ⟨ade, cpe, rfl, _⟩ := ra.val
      have RA := Shut.mk ra.weak
      clear ra
      obtain ⟨p, hp⟩ : ∃ p, B.getD i [] = p := ⟨_, rfl⟩
      rw [hp] at RA c0
      have CD := Shut.mk hp
      clear hp
      go_wp2_with (at_builtin; refine wpList_push22 rfl _ _ rfl w (.slice ad5 L.length cap5) L (.slice ade p.length cpe) p _ rfl rfl hBw HO.out RA.out rfl HN.out ?_; rintro v6 w6 ho6 hb6; have HO6 := Shut.mk (And.intro ho6 hb6); clear ho6 hb6)
      refine Handed.intro (g - 1) (by omega) (hJ1 _ _ _ ?_)
      refine ⟨⟨rfl, rfl⟩, rfl, HO6.out.2, i + 1, by go_num, by omega, ?_⟩
      have h6 := HO6.out.1
      rw [← HLL.out, List.append_assoc, ← CD.out, takeL_getD B i hil] at h6
      exact h6
  case pos =>
    have HN := Shut.mk (show (A.take i).length ≤ 2000000 by rw [List.length_take]; omega)
    obtain ⟨L, hL⟩ : ∃ L, A.take i = L := ⟨_, rfl⟩
    rw [hL] at HO HN ⊢
    have HLL := Shut.mk hL
    clear hL
    obtain ⟨ga, cpa, ea, hv, hcpa, c0, ra⟩ := (HA.out.below hBw (fun _ h => h)).get hil
    injection hv with hv _ hv3
    subst hv hv3
    obtain ⟨ade, cpe, rfl, _⟩ := ra.val
    have RA := Shut.mk ra.weak
    clear ra
    obtain ⟨p, hp⟩ : ∃ p, A.getD i [] = p := ⟨_, rfl⟩
    rw [hp] at RA c0
    have CD := Shut.mk hp
    clear hp
    go_wp2_with (at_builtin; refine wpList_push22 rfl _ _ rfl w (.slice ad5 L.length cap5) L (.slice ade p.length cpe) p _ rfl rfl hBw HO.out RA.out rfl HN.out ?_; rintro v6 w6 ho6 hb6; have HO6 := Shut.mk (And.intro ho6 hb6); clear ho6 hb6)
    refine Handed.intro (g - 1) (by omega) (hJ1 _ _ _ ?_)
    refine ⟨⟨rfl, rfl⟩, rfl, rfl, HO6.out.2, i + 1, by go_num, by omega, ?_⟩
    have h6 := HO6.out.1
    rw [← HLL.out, ← CD.out, takeL_getD A i hil] at h6
    exact h6

end Go.Proofs.Qxb6609191aDoor
