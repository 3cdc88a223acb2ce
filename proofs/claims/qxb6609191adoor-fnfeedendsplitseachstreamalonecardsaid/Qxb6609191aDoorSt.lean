/-
  Seat b6609191aD: the list of lines that the closures build; what a call leaves as it was.
-/
import Derived.Test.Qxb6609191aDoorW1
import Derived.Deep.RegionHeld3
import Derived.Deep.RegionLaw
namespace Go.Proofs.Qxb6609191aDoor
open Go.RowKit Go.Lib

/-- The list of lines LL, held by the variable O (its block and the list's own lie from N on; no line lies in x). -/
structure Ou (N : Nat) (w : World) (O : Nat) (x : Option Nat) (vL : Value) (LL : List (List UInt8)) : Prop where
  ge : N ≤ O
  ou : w.heap[O]? = some (.cells #[vL] 29)
  els : ∃ es, w.ownsRow N 22 1 vL LL.length es ∧ ∀ i, i < LL.length → Rb w x (es.getD i undef) (LL.getD i [])

/-- What a closure's call leaves: all below N; every block but lists' and their variables'. -/
structure Kc (N : Nat) (w w' : World) : Prop where
  os : w'.os = w.os
  tape : w'.tape = w.tape
  output : w'.output = w.output
  size : w.heap.size ≤ w'.heap.size
  low : ∀ k, k < N → w'.heap[k]? = w.heap[k]?
  typ : ∀ (k : Nat) cs (t : TypeId), w.heap[k]? = some (.cells cs t) → t ≠ 29 → t ≠ 22 → w'.heap[k]? = w.heap[k]?

theorem lt_of_heap {w : World} {k : Nat} {o : Obj} (h : w.heap[k]? = some o) : k < w.heap.size := (Array.getElem?_eq_some_iff.1 h).1

/-- An owned row in another world. -/
theorem owns_same {w w' : World} {B : Nat} {e : TypeId} {v : Value} {n : Nat} {xs : List Value} (h : w.ownsRow B e 1 v n xs) (hs : ∀ k cur, v.ownBlock = some k → w.heap[k]? = some (.cells cur e) → w'.heap[k]? = w.heap[k]?) : w'.ownsRow B e 1 v n xs := by
  obtain ⟨h1, h2⟩ := h
  refine ⟨h1, ?_⟩
  rcases h2 with h2 | ⟨g, cap, cur, r1, r2, r3, r4⟩
  · exact .inl h2
  · refine .inr ⟨g, cap, cur, r1, r2, ?_, r4⟩
    rw [hs g cur (by rw [r1]; rfl) r3]
    exact r3

theorem owns_block {w : World} {B : Nat} {e : TypeId} {v : Value} {n : Nat} {xs : List Value} (h : w.ownsRow B e 1 v n xs) {k : Nat} (hk : v.ownBlock = some k) : ∃ cur, w.heap[k]? = some (.cells cur e) ∧ B ≤ k := by
  rcases h.2 with ⟨rfl, _⟩ | ⟨g, cap, cur, r1, r2, r3, r4⟩
  · cases hk
  · rw [r1] at hk
    simp only [Value.ownBlock, Option.some.injEq] at hk
    subst hk
    exact ⟨cur, r3, r2⟩

/-- What an owned row of bytes reads as. -/
theorem owns_reads {w : World} {B : Nat} {v : Value} {l : List UInt8} (h : w.ownsRow B 5 1 v l.length (l.map bv)) (x : Option Nat) (hx : ∀ k, v.ownBlock = some k → x ≠ some k) : Rb w x v l := by
  rcases h.2 with ⟨rfl, hn⟩ | ⟨g, cap, cur, r1, r2, r3, r4, r5, r6, r7⟩
  · have : l = [] := List.length_eq_zero_iff.1 hn
    subst this
    exact Rb.nil w x
  · refine ⟨some ⟨g, 0, none⟩, cap, r1, r4, .inr ⟨g, 0, rfl, .inr ⟨hx g (by rw [r1]; rfl), cur, r3, fun i hi => ?_⟩⟩⟩
    have h2 : (List.take (l.length * 1) cur.toList)[i]? = (l.map bv)[i]? := by rw [r7]
    rw [List.getElem?_take, if_pos (by omega), List.getElem?_map, List.getElem?_eq_getElem hi] at h2
    rw [Nat.zero_add, ← Array.getElem?_toList, h2, List.getD_eq_getElem?_getD, List.getElem?_eq_getElem hi]
    rfl

theorem grown_same {w w' : World} {row : Option Nat} (h : w.grownBy w' row) {k : Nat} {o : Obj} (hk : w.heap[k]? = some o) (hne : row ≠ some k) : w'.heap[k]? = w.heap[k]? := h.block k (lt_of_heap hk) (fun e => hne e.symm)

theorem drew_heap (w : World) : w.drew.heap = w.heap := rfl

theorem step_app5 {w : World} {ops : Array Oper} {o : Oper} {a : Act} {K : Act → World → Prop} {Q : Exit → Act → World → Prop} {E : Prop} (hg : o.guard = none) (s y : Operand)
    (ho : o.op = .call { callee := .builtin .append, args := #[s, y], argTypes := #[22, 22] }) (B : Nat) (v vx : Value) (l m : List UInt8) (x : Option Nat)
    (hs : a.eval s = v) (hy : a.eval y = vx) (hown : w.ownsRow B 5 1 v l.length (l.map bv)) (hx : Rb w x vx m) (hlen : l.length + m.length ≤ 140737488355328) (hB : B ≤ w.heap.size)
    (h : ∀ v' w', w'.ownsRow B 5 1 v' (l ++ m).length ((l ++ m).map bv) → w.grownBy w' v.ownBlock → Lies w v v' → K (a.put o.dst v') w') :
    if Region.wanted o (yielded ops a.tmps) = true then Oper.wp Tryd.prog o a w K Q else E := by
  rw [if_pos (by simp [Region.wanted, hg])]
  exact wp_app5 s y ho B v vx l m x hs hy hown hx hlen hB h

theorem step_app22 {w : World} {ops : Array Oper} {o : Oper} {a : Act} {K : Act → World → Prop} {Q : Exit → Act → World → Prop} {E : Prop} (hg : o.guard = none) (s y : Operand)
    (ho : o.op = .call { callee := .builtin .append, args := #[s, y], argTypes := #[29, 29] }) (B : Nat) (v e : Value) (es : List Value) (ad : Addr) (c : Nat)
    (hs : a.eval s = v) (hy : a.eval y = .slice (some ad) 1 c) (hown : w.ownsRow B 22 1 v es.length es) (hc : w.cell? ad = some e) (h1 : e.oneCell' = true) (hlen : es.length + 1 ≤ 2097152) (hB : B ≤ w.heap.size)
    (h : ∀ v' w', w'.ownsRow B 22 1 v' (es ++ [e]).length (es ++ [e]) → w.grownBy w' v.ownBlock → Lies w v v' → K (a.put o.dst v') w') :
    if Region.wanted o (yielded ops a.tmps) = true then Oper.wp Tryd.prog o a w K Q else E := by
  rw [if_pos (by simp [Region.wanted, hg])]
  exact wp_app22 s y ho B v e es ad c hs hy hown hc h1 hlen hB h

theorem own_empty (w : World) : (w.alloc (.cells #[] 5)).ownsRow w.heap.size 5 1 (.slice (some ⟨w.heap.size, 0, none⟩) 0 0) ([] : List UInt8).length (([] : List UInt8).map bv) :=
  ⟨rfl, .inr ⟨w.heap.size, 0, #[], rfl, Nat.le_refl _, heap_alloc_new w _, Nat.le_refl _, by decide, rfl, rfl⟩⟩

theorem below_alloc {w w' : World} (h : Below w.heap.size w w') (o : Obj) : Below w.heap.size w (w'.alloc o) := h.alloc h.size o

theorem below_drew (w : World) : Below w.heap.size w w.drew := ⟨rfl, rfl, rfl, Nat.le_refl _, fun _ _ => rfl⟩

theorem below_cell {w w' : World} (h : Below w.heap.size w w') {O : Nat} {vL : Value} (ho : w.heap[O]? = some (.cells #[vL] 29)) : w'.cell? ⟨O, 0, none⟩ = some vL :=
  cell_of_block (by rw [h.block O (lt_of_heap ho)]; exact ho) rfl

theorem below_rb {w w' : World} (h : Below w.heap.size w w') {x : Option Nat} {v : Value} {l : List UInt8} (hr : Rb w x v l) : Rb w' x v l :=
  hr.same fun b _ hb hx => ⟨h.block b (lt_of_heap hb), hx⟩

theorem below_own {w w' : World} (h : Below w.heap.size w w') {B : Nat} {e : TypeId} {v : Value} {n : Nat} {xs : List Value} (ho : w.ownsRow B e 1 v n xs) : w'.ownsRow B e 1 v n xs :=
  owns_same ho fun k _ _ hk => h.block k (lt_of_heap hk)

theorem frozen_of_block {w : World} {b i : Nat} {cur : Array Value} {t : TypeId} (h : w.heap[b]? = some (.cells cur t)) : w.frozen? ⟨b, i, none⟩ = false := by
  simp [World.frozen?, h]

theorem heap_setCell_same {w : World} {b i : Nat} {cur : Array Value} {t : TypeId} (h : w.heap[b]? = some (.cells cur t)) (v : Value) : (w.setCell ⟨b, i, none⟩ v).heap[b]? = some (.cells (cur.setIfInBounds i v) t) := by
  have hb := lt_of_heap h
  have h2 : w.heap[b] = .cells cur t := by rw [Array.getElem?_eq_getElem hb] at h; exact Option.some.inj h
  simp [World.setCell, Array.getElem_modify, hb, h2]

theorem grown_setCell (w : World) (p : Addr) (v : Value) : w.grownBy (w.setCell p v) (some p.block) :=
  ⟨rfl, rfl, rfl, by simp, fun k _ hk => Below.heap_setCell w p v k (fun e => hk (by rw [e]))⟩

/-- The closure's end: what stands behind the store. -/
theorem emit_end {N : Nat} {w w2 w3 w4 : World} {O : Nat} {x : Option Nat} {vL v1 vL' : Value} {LL : List (List UInt8)} {l : List UInt8} {es : List Value} (hO : Ou N w O x vL LL)
    (hes : w.ownsRow N 22 1 vL LL.length es) (hel : ∀ i, i < LL.length → Rb w x (es.getD i undef) (LL.getD i [])) (hlen : es.length = LL.length) (hx : ∀ k, x = some k → k < w.heap.size) (hN : N ≤ w.heap.size)
    (b2 : Below w.heap.size w w2) (o2 : w2.ownsRow w.heap.size 5 1 v1 l.length (l.map bv)) (b3 : Below w2.heap.size w2 w3) (o4 : w4.ownsRow N 22 1 vL' (es ++ [v1]).length (es ++ [v1])) (g4 : w3.grownBy w4 vL.ownBlock)
    (h4 : w4.heap[O]? = some (.cells #[vL] 29)) :
    Ou N (w4.setCell ⟨O, 0, none⟩ vL') O x vL' (LL ++ [l]) ∧ Kc N w (w4.setCell ⟨O, 0, none⟩ vL') := by
  have b03 : Below w.heap.size w w3 := b2.trans (b3.mono b2.size)
  have hlb : ∀ k, vL.ownBlock = some k → (∃ cur, w.heap[k]? = some (.cells cur 22)) ∧ N ≤ k := fun k hk => by
    obtain ⟨cur, h1, h2⟩ := owns_block hes hk
    exact ⟨⟨cur, h1⟩, h2⟩
  have g5 := grown_setCell w4 ⟨O, 0, none⟩ vL'
  -- a block of another kind
  have same : ∀ (k : Nat) cs (t : TypeId), w3.heap[k]? = some (.cells cs t) → t ≠ 29 → t ≠ 22 → (w4.setCell ⟨O, 0, none⟩ vL').heap[k]? = w3.heap[k]? := fun k cs t hk h29 h22 => by
    have e4 : w4.heap[k]? = w3.heap[k]? := grown_same g4 hk (fun e => by
      obtain ⟨⟨cur, h1⟩, _⟩ := hlb k e
      rw [← b03.block k (lt_of_heap h1), hk] at h1
      injection h1 with h1
      injection h1 with _ h1
      exact h22 h1)
    rw [grown_same g5 (by rw [e4]; exact hk) (fun e => by
      simp only [Option.some.injEq] at e
      subst e
      rw [e4, hk] at h4
      injection h4 with h4
      injection h4 with _ h4
      exact h29 h4), e4]
  refine ⟨⟨hO.ge, ?_, ?_⟩, ?_⟩
  · rw [heap_setCell_same h4]; rfl
  · refine ⟨es ++ [v1], ?_, ?_⟩
    · have h5 : LL.length + 1 = (es ++ [v1]).length := by simp [hlen]
      rw [List.length_append, List.length_singleton, h5]
      refine owns_same o4 (fun k cur hk hc => grown_same g5 hc (fun e => ?_))
      simp only [Option.some.injEq] at e
      subst e
      rw [h4] at hc
      injection hc with hc
      injection hc with _ hc
      exact absurd hc (by decide)
    · intro i hi
      by_cases h : i < LL.length
      · have e1 : (es ++ [v1]).getD i undef = es.getD i undef := by
          simp only [List.getD_eq_getElem?_getD, List.getElem?_append_left (show i < es.length by omega)]
        have e2 : (LL ++ [l]).getD i [] = LL.getD i [] := by
          simp only [List.getD_eq_getElem?_getD, List.getElem?_append_left h]
        rw [e1, e2]
        refine (hel i h).same fun b cur hb hxb => ⟨?_, hxb⟩
        have hb3 : w3.heap[b]? = w.heap[b]? := b03.block b (lt_of_heap hb)
        rw [same b cur 5 (by rw [hb3]; exact hb) (by decide) (by decide), hb3]
      · have hi2 : i = LL.length := by simp at hi; omega
        subst hi2
        have e1 : (es ++ [v1]).getD LL.length undef = v1 := by
          simp [List.getD_eq_getElem?_getD, ← hlen]
        have e2 : (LL ++ [l]).getD LL.length [] = l := by
          simp [List.getD_eq_getElem?_getD]
        rw [e1, e2]
        have r2 : Rb w2 x v1 l := owns_reads o2 x (fun k hk e => by
          have h1 := hx k e
          have h2 := (o2.lt k hk).1
          omega)
        refine r2.same fun b cur hb hxb => ⟨?_, hxb⟩
        have hb3 : w3.heap[b]? = w2.heap[b]? := b3.block b (lt_of_heap hb)
        rw [same b cur 5 (by rw [hb3]; exact hb) (by decide) (by decide), hb3]
  · have hs4 := g4.size
    have hs5 := g5.size
    have hs3 := b03.size
    refine ⟨(g5.os.trans g4.os).trans b03.os, (g5.tape.trans g4.tape).trans b03.tape, (g5.output.trans g4.output).trans b03.output, by omega, ?_, ?_⟩
    · intro k hk
      rw [g5.block k (by omega) (fun e => by simp only [Option.some.injEq] at e; have := hO.ge; omega), g4.block k (by omega) (fun e => by have := (hlb k e.symm).2; omega), b03.block k (by omega)]
    · intro k cs t hk h29 h22
      have hb3 : w3.heap[k]? = w.heap[k]? := b03.block k (lt_of_heap hk)
      rw [same k cs t (by rw [hb3]; exact hk) h29 h22, hb3]

set_option maxHeartbeats 4000000 in
theorem emit33 (N : Nat) (w : World) (O : Nat) (x y : Option Nat) (vL v : Value) (LL : List (List UInt8)) (l : List UInt8) (hO : Ou N w O x vL LL) (hv : Rb w y v l) (hx : ∀ k, x = some k → k < w.heap.size) (hN : N ≤ w.heap.size) (hl : l.length ≤ 4194304) (hLL : LL.length ≤ 2000000) :
    Calls Tryd.prog 33 #[v, .pointer (some ⟨O, 0, none⟩)] w fun e w' => e = .returned (.tuple #[]) ∧ (∃ vL', Ou N w' O x vL' (LL ++ [l])) ∧ Kc N w w' := by
  obtain ⟨es, hes, hel⟩ := hO.els
  have hlen : es.length = LL.length := by simpa using hes.1
  have c0 : w.cell? ⟨O, 0, none⟩ = some vL := cell_of_block hO.ou rfl
  go_enter Tryd.func33, Tryd.ntmps33
  refine wp_region_any (by kernel_rfl) ?_
  change wpAny _ _ _ _ _ _ _ (World.drew _)
  have bd := below_drew w
  have cd := below_cell bd hO.ou
  have hd : w.drew.heap.size = w.heap.size := rfl
  generalize w.drew = wd at bd cd hd ⊢
  refine wpAny_take (i := 2) (v := v) rfl (by kernel_rfl) (by kernel_rfl) (by kernel_rfl) (fun _ _ _ h => h) (Or.inl ⟨by rfl, fun w => by (go_simp; try rfl)⟩) ?_
  refine wpAny_ready (rs := [0, 1]) (by kernel_rfl) (by simp) ?_
  refine AllReady.cons rfl (fun K hK => ?_) (AllReady.cons rfl (fun K hK => ?_) AllReady.nil)
  · skip
    go_simp
    refine hK _ _ ?_
    clear hK K
    refine wpAny_ready (rs := [1]) (by kernel_rfl) (by simp) ?_
    refine AllReady.cons rfl (fun K hK => ?_) AllReady.nil
    go_simp
    refine hK _ _ ?_
    clear hK K
    have o1 := own_empty wd
    have b1 := below_alloc bd (.cells #[] 5)
    have c1 := below_cell b1 hO.ou
    rw [hd] at o1
    generalize hw1 : wd.alloc (.cells #[] 5) = w1 at o1 b1 c1 ⊢
    clear hw1
    refine wpAny_ready (rs := [3]) (by kernel_rfl) (by simp) ?_
    refine AllReady.cons rfl (fun K hK => ?_) AllReady.nil
    refine step_app5 (by rfl) (.tmp 4) (.tmp 5) (by rfl) w.heap.size (.slice (some ⟨w.heap.size, 0, none⟩) 0 0) v [] l y (by simp [Act.eval]) (by simp [Act.eval]) o1 (below_rb b1 hv) (by simp only [List.length_nil]; omega) b1.size (fun v1 w2 o2 g2 l2 => ?_)
    refine hK _ _ ?_
    clear hK K
    rw [List.nil_append] at o2
    have b2 : Below w.heap.size w w2 := b1.grown g2 b1.size (fun k hk => by simp only [Value.ownBlock, Option.some.injEq] at hk; omega)
    have c2 := below_cell b2 hO.ou
    obtain ⟨ad1, cap1, rfl, _⟩ := (owns_reads o2 none (fun _ _ h => by cases h)).val
    refine wpAny_ready (rs := [4]) (by kernel_rfl) (by simp) ?_
    refine AllReady.cons rfl (fun K hK => ?_) AllReady.nil
    go_simp
    refine hK _ _ ?_
    clear hK K
    have c3n : (w2.alloc (.cells #[.slice ad1 l.length cap1] 22)).cell? ⟨w2.heap.size, 0, none⟩ = some (.slice ad1 l.length cap1) := cell_of_block (heap_alloc_new w2 _) rfl
    have b3 : Below w2.heap.size w2 (w2.alloc (.cells #[.slice ad1 l.length cap1] 22)) := (Below.refl _ _).alloc (Nat.le_refl _) _
    have c3 := below_cell (b2.trans (b3.mono b2.size)) hO.ou
    generalize hw3 : w2.alloc (.cells #[.slice ad1 l.length cap1] 22) = w3 at c3n b3 c3 ⊢
    clear hw3
    refine wpAny_ready (rs := [5]) (by kernel_rfl) (by simp) ?_
    refine AllReady.cons rfl (fun K hK => ?_) AllReady.nil
    have o3 := below_own (b2.trans (b3.mono b2.size)) hes
    rw [← hlen] at o3
    refine step_app22 (by rfl) (.tmp 3) (.tmp 7) (by rfl) N vL (.slice ad1 l.length cap1) es ⟨w2.heap.size, 0, none⟩ 1 (by simp [Act.eval]) (by simp [Act.eval]) o3 c3n rfl (by omega) (Nat.le_trans hN (Nat.le_trans b2.size b3.size)) (fun vL' w4 o4 g4 l4 => ?_)
    refine hK _ _ ?_
    clear hK K
    have c4b : w4.heap[O]? = some (.cells #[vL] 29) := by
      have h3 : w3.heap[O]? = some (.cells #[vL] 29) := by rw [(b2.trans (b3.mono b2.size)).block O (lt_of_heap hO.ou)]; exact hO.ou
      rw [grown_same g4 h3 (fun e => by obtain ⟨cur, h1, _⟩ := owns_block o3 e; rw [h3] at h1; injection h1 with h1; injection h1 with _ h1; exact absurd h1 (by decide))]
      exact h3
    have c4 := cell_of_block (i := 0) c4b rfl
    have f4 := frozen_of_block (i := 0) c4b
    have fin := Shut.mk (emit_end hO hes hel hlen hx hN b2 o2 b3 o4 g4 c4b)
    obtain ⟨g', cap', cur', rfl, _⟩ : ∃ g' cap' cur', vL' = .slice (some ⟨g', 0, none⟩) (es ++ [Value.slice ad1 l.length cap1]).length cap' ∧ w4.heap[g']? = some (.cells cur' 22) := by
      rcases o4.2 with ⟨_, h⟩ | ⟨g', cap', cur', h1, _, h2, _⟩
      · simp at h
      · exact ⟨g', cap', cur', h1, h2⟩
    refine wpAny_ready (rs := [6]) (by kernel_rfl) (by simp) ?_
    refine AllReady.cons rfl (fun K hK => ?_) AllReady.nil
    go_simp
    refine hK _ _ ?_
    clear hK K
    refine wpAny_done (by kernel_rfl) ?_ _
    go_end0
    have fo := fin.out
    simp only [List.length_append, List.length_cons, List.length_nil, Nat.zero_add, hlen] at fo
    exact ⟨rfl, ⟨_, fo.1⟩, fo.2⟩
  · skip
    go_simp
    refine hK _ _ ?_
    clear hK K
    have o1 := own_empty wd
    have b1 := below_alloc bd (.cells #[] 5)
    have c1 := below_cell b1 hO.ou
    rw [hd] at o1
    generalize hw1 : wd.alloc (.cells #[] 5) = w1 at o1 b1 c1 ⊢
    clear hw1
    refine wpAny_ready (rs := [0, 3]) (by kernel_rfl) (by simp) ?_
    refine AllReady.cons rfl (fun K hK => ?_) (AllReady.cons rfl (fun K hK => ?_) AllReady.nil)
    · skip
      go_simp
      refine hK _ _ ?_
      clear hK K
      refine wpAny_ready (rs := [3]) (by kernel_rfl) (by simp) ?_
      refine AllReady.cons rfl (fun K hK => ?_) AllReady.nil
      refine step_app5 (by rfl) (.tmp 4) (.tmp 5) (by rfl) w.heap.size (.slice (some ⟨w.heap.size, 0, none⟩) 0 0) v [] l y (by simp [Act.eval]) (by simp [Act.eval]) o1 (below_rb b1 hv) (by simp only [List.length_nil]; omega) b1.size (fun v1 w2 o2 g2 l2 => ?_)
      refine hK _ _ ?_
      clear hK K
      rw [List.nil_append] at o2
      have b2 : Below w.heap.size w w2 := b1.grown g2 b1.size (fun k hk => by simp only [Value.ownBlock, Option.some.injEq] at hk; omega)
      have c2 := below_cell b2 hO.ou
      obtain ⟨ad1, cap1, rfl, _⟩ := (owns_reads o2 none (fun _ _ h => by cases h)).val
      refine wpAny_ready (rs := [4]) (by kernel_rfl) (by simp) ?_
      refine AllReady.cons rfl (fun K hK => ?_) AllReady.nil
      go_simp
      refine hK _ _ ?_
      clear hK K
      have c3n : (w2.alloc (.cells #[.slice ad1 l.length cap1] 22)).cell? ⟨w2.heap.size, 0, none⟩ = some (.slice ad1 l.length cap1) := cell_of_block (heap_alloc_new w2 _) rfl
      have b3 : Below w2.heap.size w2 (w2.alloc (.cells #[.slice ad1 l.length cap1] 22)) := (Below.refl _ _).alloc (Nat.le_refl _) _
      have c3 := below_cell (b2.trans (b3.mono b2.size)) hO.ou
      generalize hw3 : w2.alloc (.cells #[.slice ad1 l.length cap1] 22) = w3 at c3n b3 c3 ⊢
      clear hw3
      refine wpAny_ready (rs := [5]) (by kernel_rfl) (by simp) ?_
      refine AllReady.cons rfl (fun K hK => ?_) AllReady.nil
      have o3 := below_own (b2.trans (b3.mono b2.size)) hes
      rw [← hlen] at o3
      refine step_app22 (by rfl) (.tmp 3) (.tmp 7) (by rfl) N vL (.slice ad1 l.length cap1) es ⟨w2.heap.size, 0, none⟩ 1 (by simp [Act.eval]) (by simp [Act.eval]) o3 c3n rfl (by omega) (Nat.le_trans hN (Nat.le_trans b2.size b3.size)) (fun vL' w4 o4 g4 l4 => ?_)
      refine hK _ _ ?_
      clear hK K
      have c4b : w4.heap[O]? = some (.cells #[vL] 29) := by
        have h3 : w3.heap[O]? = some (.cells #[vL] 29) := by rw [(b2.trans (b3.mono b2.size)).block O (lt_of_heap hO.ou)]; exact hO.ou
        rw [grown_same g4 h3 (fun e => by obtain ⟨cur, h1, _⟩ := owns_block o3 e; rw [h3] at h1; injection h1 with h1; injection h1 with _ h1; exact absurd h1 (by decide))]
        exact h3
      have c4 := cell_of_block (i := 0) c4b rfl
      have f4 := frozen_of_block (i := 0) c4b
      have fin := Shut.mk (emit_end hO hes hel hlen hx hN b2 o2 b3 o4 g4 c4b)
      obtain ⟨g', cap', cur', rfl, _⟩ : ∃ g' cap' cur', vL' = .slice (some ⟨g', 0, none⟩) (es ++ [Value.slice ad1 l.length cap1]).length cap' ∧ w4.heap[g']? = some (.cells cur' 22) := by
        rcases o4.2 with ⟨_, h⟩ | ⟨g', cap', cur', h1, _, h2, _⟩
        · simp at h
        · exact ⟨g', cap', cur', h1, h2⟩
      refine wpAny_ready (rs := [6]) (by kernel_rfl) (by simp) ?_
      refine AllReady.cons rfl (fun K hK => ?_) AllReady.nil
      go_simp
      refine hK _ _ ?_
      clear hK K
      refine wpAny_done (by kernel_rfl) ?_ _
      go_end0
      have fo := fin.out
      simp only [List.length_append, List.length_cons, List.length_nil, Nat.zero_add, hlen] at fo
      exact ⟨rfl, ⟨_, fo.1⟩, fo.2⟩
    · skip
      refine step_app5 (by rfl) (.tmp 4) (.tmp 5) (by rfl) w.heap.size (.slice (some ⟨w.heap.size, 0, none⟩) 0 0) v [] l y (by simp [Act.eval]) (by simp [Act.eval]) o1 (below_rb b1 hv) (by simp only [List.length_nil]; omega) b1.size (fun v1 w2 o2 g2 l2 => ?_)
      refine hK _ _ ?_
      clear hK K
      rw [List.nil_append] at o2
      have b2 : Below w.heap.size w w2 := b1.grown g2 b1.size (fun k hk => by simp only [Value.ownBlock, Option.some.injEq] at hk; omega)
      have c2 := below_cell b2 hO.ou
      obtain ⟨ad1, cap1, rfl, _⟩ := (owns_reads o2 none (fun _ _ h => by cases h)).val
      refine wpAny_ready (rs := [0, 4]) (by kernel_rfl) (by simp) ?_
      refine AllReady.cons rfl (fun K hK => ?_) (AllReady.cons rfl (fun K hK => ?_) AllReady.nil)
      · skip
        go_simp
        refine hK _ _ ?_
        clear hK K
        refine wpAny_ready (rs := [4]) (by kernel_rfl) (by simp) ?_
        refine AllReady.cons rfl (fun K hK => ?_) AllReady.nil
        go_simp
        refine hK _ _ ?_
        clear hK K
        have c3n : (w2.alloc (.cells #[.slice ad1 l.length cap1] 22)).cell? ⟨w2.heap.size, 0, none⟩ = some (.slice ad1 l.length cap1) := cell_of_block (heap_alloc_new w2 _) rfl
        have b3 : Below w2.heap.size w2 (w2.alloc (.cells #[.slice ad1 l.length cap1] 22)) := (Below.refl _ _).alloc (Nat.le_refl _) _
        have c3 := below_cell (b2.trans (b3.mono b2.size)) hO.ou
        generalize hw3 : w2.alloc (.cells #[.slice ad1 l.length cap1] 22) = w3 at c3n b3 c3 ⊢
        clear hw3
        refine wpAny_ready (rs := [5]) (by kernel_rfl) (by simp) ?_
        refine AllReady.cons rfl (fun K hK => ?_) AllReady.nil
        have o3 := below_own (b2.trans (b3.mono b2.size)) hes
        rw [← hlen] at o3
        refine step_app22 (by rfl) (.tmp 3) (.tmp 7) (by rfl) N vL (.slice ad1 l.length cap1) es ⟨w2.heap.size, 0, none⟩ 1 (by simp [Act.eval]) (by simp [Act.eval]) o3 c3n rfl (by omega) (Nat.le_trans hN (Nat.le_trans b2.size b3.size)) (fun vL' w4 o4 g4 l4 => ?_)
        refine hK _ _ ?_
        clear hK K
        have c4b : w4.heap[O]? = some (.cells #[vL] 29) := by
          have h3 : w3.heap[O]? = some (.cells #[vL] 29) := by rw [(b2.trans (b3.mono b2.size)).block O (lt_of_heap hO.ou)]; exact hO.ou
          rw [grown_same g4 h3 (fun e => by obtain ⟨cur, h1, _⟩ := owns_block o3 e; rw [h3] at h1; injection h1 with h1; injection h1 with _ h1; exact absurd h1 (by decide))]
          exact h3
        have c4 := cell_of_block (i := 0) c4b rfl
        have f4 := frozen_of_block (i := 0) c4b
        have fin := Shut.mk (emit_end hO hes hel hlen hx hN b2 o2 b3 o4 g4 c4b)
        obtain ⟨g', cap', cur', rfl, _⟩ : ∃ g' cap' cur', vL' = .slice (some ⟨g', 0, none⟩) (es ++ [Value.slice ad1 l.length cap1]).length cap' ∧ w4.heap[g']? = some (.cells cur' 22) := by
          rcases o4.2 with ⟨_, h⟩ | ⟨g', cap', cur', h1, _, h2, _⟩
          · simp at h
          · exact ⟨g', cap', cur', h1, h2⟩
        refine wpAny_ready (rs := [6]) (by kernel_rfl) (by simp) ?_
        refine AllReady.cons rfl (fun K hK => ?_) AllReady.nil
        go_simp
        refine hK _ _ ?_
        clear hK K
        refine wpAny_done (by kernel_rfl) ?_ _
        go_end0
        have fo := fin.out
        simp only [List.length_append, List.length_cons, List.length_nil, Nat.zero_add, hlen] at fo
        exact ⟨rfl, ⟨_, fo.1⟩, fo.2⟩
      · skip
        go_simp
        refine hK _ _ ?_
        clear hK K
        have c3n : (w2.alloc (.cells #[.slice ad1 l.length cap1] 22)).cell? ⟨w2.heap.size, 0, none⟩ = some (.slice ad1 l.length cap1) := cell_of_block (heap_alloc_new w2 _) rfl
        have b3 : Below w2.heap.size w2 (w2.alloc (.cells #[.slice ad1 l.length cap1] 22)) := (Below.refl _ _).alloc (Nat.le_refl _) _
        have c3 := below_cell (b2.trans (b3.mono b2.size)) hO.ou
        generalize hw3 : w2.alloc (.cells #[.slice ad1 l.length cap1] 22) = w3 at c3n b3 c3 ⊢
        clear hw3
        refine wpAny_ready (rs := [0]) (by kernel_rfl) (by simp) ?_
        refine AllReady.cons rfl (fun K hK => ?_) AllReady.nil
        go_simp
        refine hK _ _ ?_
        clear hK K
        refine wpAny_ready (rs := [5]) (by kernel_rfl) (by simp) ?_
        refine AllReady.cons rfl (fun K hK => ?_) AllReady.nil
        have o3 := below_own (b2.trans (b3.mono b2.size)) hes
        rw [← hlen] at o3
        refine step_app22 (by rfl) (.tmp 3) (.tmp 7) (by rfl) N vL (.slice ad1 l.length cap1) es ⟨w2.heap.size, 0, none⟩ 1 (by simp [Act.eval]) (by simp [Act.eval]) o3 c3n rfl (by omega) (Nat.le_trans hN (Nat.le_trans b2.size b3.size)) (fun vL' w4 o4 g4 l4 => ?_)
        refine hK _ _ ?_
        clear hK K
        have c4b : w4.heap[O]? = some (.cells #[vL] 29) := by
          have h3 : w3.heap[O]? = some (.cells #[vL] 29) := by rw [(b2.trans (b3.mono b2.size)).block O (lt_of_heap hO.ou)]; exact hO.ou
          rw [grown_same g4 h3 (fun e => by obtain ⟨cur, h1, _⟩ := owns_block o3 e; rw [h3] at h1; injection h1 with h1; injection h1 with _ h1; exact absurd h1 (by decide))]
          exact h3
        have c4 := cell_of_block (i := 0) c4b rfl
        have f4 := frozen_of_block (i := 0) c4b
        have fin := Shut.mk (emit_end hO hes hel hlen hx hN b2 o2 b3 o4 g4 c4b)
        obtain ⟨g', cap', cur', rfl, _⟩ : ∃ g' cap' cur', vL' = .slice (some ⟨g', 0, none⟩) (es ++ [Value.slice ad1 l.length cap1]).length cap' ∧ w4.heap[g']? = some (.cells cur' 22) := by
          rcases o4.2 with ⟨_, h⟩ | ⟨g', cap', cur', h1, _, h2, _⟩
          · simp at h
          · exact ⟨g', cap', cur', h1, h2⟩
        refine wpAny_ready (rs := [6]) (by kernel_rfl) (by simp) ?_
        refine AllReady.cons rfl (fun K hK => ?_) AllReady.nil
        go_simp
        refine hK _ _ ?_
        clear hK K
        refine wpAny_done (by kernel_rfl) ?_ _
        go_end0
        have fo := fin.out
        simp only [List.length_append, List.length_cons, List.length_nil, Nat.zero_add, hlen] at fo
        exact ⟨rfl, ⟨_, fo.1⟩, fo.2⟩

set_option maxHeartbeats 4000000 in
theorem emit35 (N : Nat) (w : World) (O : Nat) (x y : Option Nat) (vL v : Value) (LL : List (List UInt8)) (l : List UInt8) (hO : Ou N w O x vL LL) (hv : Rb w y v l) (hx : ∀ k, x = some k → k < w.heap.size) (hN : N ≤ w.heap.size) (hl : l.length ≤ 4194304) (hLL : LL.length ≤ 2000000) :
    Calls Tryd.prog 35 #[v, .pointer (some ⟨O, 0, none⟩)] w fun e w' => e = .returned (.tuple #[]) ∧ (∃ vL', Ou N w' O x vL' (LL ++ [l])) ∧ Kc N w w' := by
  obtain ⟨es, hes, hel⟩ := hO.els
  have hlen : es.length = LL.length := by simpa using hes.1
  have c0 : w.cell? ⟨O, 0, none⟩ = some vL := cell_of_block hO.ou rfl
  go_enter Tryd.func35, Tryd.ntmps35
  refine wp_region_any (by kernel_rfl) ?_
  change wpAny _ _ _ _ _ _ _ (World.drew _)
  have bd := below_drew w
  have cd := below_cell bd hO.ou
  have hd : w.drew.heap.size = w.heap.size := rfl
  generalize w.drew = wd at bd cd hd ⊢
  refine wpAny_take (i := 2) (v := v) rfl (by kernel_rfl) (by kernel_rfl) (by kernel_rfl) (fun _ _ _ h => h) (Or.inl ⟨by rfl, fun w => by (go_simp; try rfl)⟩) ?_
  refine wpAny_ready (rs := [0, 1]) (by kernel_rfl) (by simp) ?_
  refine AllReady.cons rfl (fun K hK => ?_) (AllReady.cons rfl (fun K hK => ?_) AllReady.nil)
  · skip
    go_simp
    refine hK _ _ ?_
    clear hK K
    refine wpAny_ready (rs := [1]) (by kernel_rfl) (by simp) ?_
    refine AllReady.cons rfl (fun K hK => ?_) AllReady.nil
    go_simp
    refine hK _ _ ?_
    clear hK K
    have o1 := own_empty wd
    have b1 := below_alloc bd (.cells #[] 5)
    have c1 := below_cell b1 hO.ou
    rw [hd] at o1
    generalize hw1 : wd.alloc (.cells #[] 5) = w1 at o1 b1 c1 ⊢
    clear hw1
    refine wpAny_ready (rs := [3]) (by kernel_rfl) (by simp) ?_
    refine AllReady.cons rfl (fun K hK => ?_) AllReady.nil
    refine step_app5 (by rfl) (.tmp 4) (.tmp 5) (by rfl) w.heap.size (.slice (some ⟨w.heap.size, 0, none⟩) 0 0) v [] l y (by simp [Act.eval]) (by simp [Act.eval]) o1 (below_rb b1 hv) (by simp only [List.length_nil]; omega) b1.size (fun v1 w2 o2 g2 l2 => ?_)
    refine hK _ _ ?_
    clear hK K
    rw [List.nil_append] at o2
    have b2 : Below w.heap.size w w2 := b1.grown g2 b1.size (fun k hk => by simp only [Value.ownBlock, Option.some.injEq] at hk; omega)
    have c2 := below_cell b2 hO.ou
    obtain ⟨ad1, cap1, rfl, _⟩ := (owns_reads o2 none (fun _ _ h => by cases h)).val
    refine wpAny_ready (rs := [4]) (by kernel_rfl) (by simp) ?_
    refine AllReady.cons rfl (fun K hK => ?_) AllReady.nil
    go_simp
    refine hK _ _ ?_
    clear hK K
    have c3n : (w2.alloc (.cells #[.slice ad1 l.length cap1] 22)).cell? ⟨w2.heap.size, 0, none⟩ = some (.slice ad1 l.length cap1) := cell_of_block (heap_alloc_new w2 _) rfl
    have b3 : Below w2.heap.size w2 (w2.alloc (.cells #[.slice ad1 l.length cap1] 22)) := (Below.refl _ _).alloc (Nat.le_refl _) _
    have c3 := below_cell (b2.trans (b3.mono b2.size)) hO.ou
    generalize hw3 : w2.alloc (.cells #[.slice ad1 l.length cap1] 22) = w3 at c3n b3 c3 ⊢
    clear hw3
    refine wpAny_ready (rs := [5]) (by kernel_rfl) (by simp) ?_
    refine AllReady.cons rfl (fun K hK => ?_) AllReady.nil
    have o3 := below_own (b2.trans (b3.mono b2.size)) hes
    rw [← hlen] at o3
    refine step_app22 (by rfl) (.tmp 3) (.tmp 7) (by rfl) N vL (.slice ad1 l.length cap1) es ⟨w2.heap.size, 0, none⟩ 1 (by simp [Act.eval]) (by simp [Act.eval]) o3 c3n rfl (by omega) (Nat.le_trans hN (Nat.le_trans b2.size b3.size)) (fun vL' w4 o4 g4 l4 => ?_)
    refine hK _ _ ?_
    clear hK K
    have c4b : w4.heap[O]? = some (.cells #[vL] 29) := by
      have h3 : w3.heap[O]? = some (.cells #[vL] 29) := by rw [(b2.trans (b3.mono b2.size)).block O (lt_of_heap hO.ou)]; exact hO.ou
      rw [grown_same g4 h3 (fun e => by obtain ⟨cur, h1, _⟩ := owns_block o3 e; rw [h3] at h1; injection h1 with h1; injection h1 with _ h1; exact absurd h1 (by decide))]
      exact h3
    have c4 := cell_of_block (i := 0) c4b rfl
    have f4 := frozen_of_block (i := 0) c4b
    have fin := Shut.mk (emit_end hO hes hel hlen hx hN b2 o2 b3 o4 g4 c4b)
    obtain ⟨g', cap', cur', rfl, _⟩ : ∃ g' cap' cur', vL' = .slice (some ⟨g', 0, none⟩) (es ++ [Value.slice ad1 l.length cap1]).length cap' ∧ w4.heap[g']? = some (.cells cur' 22) := by
      rcases o4.2 with ⟨_, h⟩ | ⟨g', cap', cur', h1, _, h2, _⟩
      · simp at h
      · exact ⟨g', cap', cur', h1, h2⟩
    refine wpAny_ready (rs := [6]) (by kernel_rfl) (by simp) ?_
    refine AllReady.cons rfl (fun K hK => ?_) AllReady.nil
    go_simp
    refine hK _ _ ?_
    clear hK K
    refine wpAny_done (by kernel_rfl) ?_ _
    go_end0
    have fo := fin.out
    simp only [List.length_append, List.length_cons, List.length_nil, Nat.zero_add, hlen] at fo
    exact ⟨rfl, ⟨_, fo.1⟩, fo.2⟩
  · skip
    go_simp
    refine hK _ _ ?_
    clear hK K
    have o1 := own_empty wd
    have b1 := below_alloc bd (.cells #[] 5)
    have c1 := below_cell b1 hO.ou
    rw [hd] at o1
    generalize hw1 : wd.alloc (.cells #[] 5) = w1 at o1 b1 c1 ⊢
    clear hw1
    refine wpAny_ready (rs := [0, 3]) (by kernel_rfl) (by simp) ?_
    refine AllReady.cons rfl (fun K hK => ?_) (AllReady.cons rfl (fun K hK => ?_) AllReady.nil)
    · skip
      go_simp
      refine hK _ _ ?_
      clear hK K
      refine wpAny_ready (rs := [3]) (by kernel_rfl) (by simp) ?_
      refine AllReady.cons rfl (fun K hK => ?_) AllReady.nil
      refine step_app5 (by rfl) (.tmp 4) (.tmp 5) (by rfl) w.heap.size (.slice (some ⟨w.heap.size, 0, none⟩) 0 0) v [] l y (by simp [Act.eval]) (by simp [Act.eval]) o1 (below_rb b1 hv) (by simp only [List.length_nil]; omega) b1.size (fun v1 w2 o2 g2 l2 => ?_)
      refine hK _ _ ?_
      clear hK K
      rw [List.nil_append] at o2
      have b2 : Below w.heap.size w w2 := b1.grown g2 b1.size (fun k hk => by simp only [Value.ownBlock, Option.some.injEq] at hk; omega)
      have c2 := below_cell b2 hO.ou
      obtain ⟨ad1, cap1, rfl, _⟩ := (owns_reads o2 none (fun _ _ h => by cases h)).val
      refine wpAny_ready (rs := [4]) (by kernel_rfl) (by simp) ?_
      refine AllReady.cons rfl (fun K hK => ?_) AllReady.nil
      go_simp
      refine hK _ _ ?_
      clear hK K
      have c3n : (w2.alloc (.cells #[.slice ad1 l.length cap1] 22)).cell? ⟨w2.heap.size, 0, none⟩ = some (.slice ad1 l.length cap1) := cell_of_block (heap_alloc_new w2 _) rfl
      have b3 : Below w2.heap.size w2 (w2.alloc (.cells #[.slice ad1 l.length cap1] 22)) := (Below.refl _ _).alloc (Nat.le_refl _) _
      have c3 := below_cell (b2.trans (b3.mono b2.size)) hO.ou
      generalize hw3 : w2.alloc (.cells #[.slice ad1 l.length cap1] 22) = w3 at c3n b3 c3 ⊢
      clear hw3
      refine wpAny_ready (rs := [5]) (by kernel_rfl) (by simp) ?_
      refine AllReady.cons rfl (fun K hK => ?_) AllReady.nil
      have o3 := below_own (b2.trans (b3.mono b2.size)) hes
      rw [← hlen] at o3
      refine step_app22 (by rfl) (.tmp 3) (.tmp 7) (by rfl) N vL (.slice ad1 l.length cap1) es ⟨w2.heap.size, 0, none⟩ 1 (by simp [Act.eval]) (by simp [Act.eval]) o3 c3n rfl (by omega) (Nat.le_trans hN (Nat.le_trans b2.size b3.size)) (fun vL' w4 o4 g4 l4 => ?_)
      refine hK _ _ ?_
      clear hK K
      have c4b : w4.heap[O]? = some (.cells #[vL] 29) := by
        have h3 : w3.heap[O]? = some (.cells #[vL] 29) := by rw [(b2.trans (b3.mono b2.size)).block O (lt_of_heap hO.ou)]; exact hO.ou
        rw [grown_same g4 h3 (fun e => by obtain ⟨cur, h1, _⟩ := owns_block o3 e; rw [h3] at h1; injection h1 with h1; injection h1 with _ h1; exact absurd h1 (by decide))]
        exact h3
      have c4 := cell_of_block (i := 0) c4b rfl
      have f4 := frozen_of_block (i := 0) c4b
      have fin := Shut.mk (emit_end hO hes hel hlen hx hN b2 o2 b3 o4 g4 c4b)
      obtain ⟨g', cap', cur', rfl, _⟩ : ∃ g' cap' cur', vL' = .slice (some ⟨g', 0, none⟩) (es ++ [Value.slice ad1 l.length cap1]).length cap' ∧ w4.heap[g']? = some (.cells cur' 22) := by
        rcases o4.2 with ⟨_, h⟩ | ⟨g', cap', cur', h1, _, h2, _⟩
        · simp at h
        · exact ⟨g', cap', cur', h1, h2⟩
      refine wpAny_ready (rs := [6]) (by kernel_rfl) (by simp) ?_
      refine AllReady.cons rfl (fun K hK => ?_) AllReady.nil
      go_simp
      refine hK _ _ ?_
      clear hK K
      refine wpAny_done (by kernel_rfl) ?_ _
      go_end0
      have fo := fin.out
      simp only [List.length_append, List.length_cons, List.length_nil, Nat.zero_add, hlen] at fo
      exact ⟨rfl, ⟨_, fo.1⟩, fo.2⟩
    · skip
      refine step_app5 (by rfl) (.tmp 4) (.tmp 5) (by rfl) w.heap.size (.slice (some ⟨w.heap.size, 0, none⟩) 0 0) v [] l y (by simp [Act.eval]) (by simp [Act.eval]) o1 (below_rb b1 hv) (by simp only [List.length_nil]; omega) b1.size (fun v1 w2 o2 g2 l2 => ?_)
      refine hK _ _ ?_
      clear hK K
      rw [List.nil_append] at o2
      have b2 : Below w.heap.size w w2 := b1.grown g2 b1.size (fun k hk => by simp only [Value.ownBlock, Option.some.injEq] at hk; omega)
      have c2 := below_cell b2 hO.ou
      obtain ⟨ad1, cap1, rfl, _⟩ := (owns_reads o2 none (fun _ _ h => by cases h)).val
      refine wpAny_ready (rs := [0, 4]) (by kernel_rfl) (by simp) ?_
      refine AllReady.cons rfl (fun K hK => ?_) (AllReady.cons rfl (fun K hK => ?_) AllReady.nil)
      · skip
        go_simp
        refine hK _ _ ?_
        clear hK K
        refine wpAny_ready (rs := [4]) (by kernel_rfl) (by simp) ?_
        refine AllReady.cons rfl (fun K hK => ?_) AllReady.nil
        go_simp
        refine hK _ _ ?_
        clear hK K
        have c3n : (w2.alloc (.cells #[.slice ad1 l.length cap1] 22)).cell? ⟨w2.heap.size, 0, none⟩ = some (.slice ad1 l.length cap1) := cell_of_block (heap_alloc_new w2 _) rfl
        have b3 : Below w2.heap.size w2 (w2.alloc (.cells #[.slice ad1 l.length cap1] 22)) := (Below.refl _ _).alloc (Nat.le_refl _) _
        have c3 := below_cell (b2.trans (b3.mono b2.size)) hO.ou
        generalize hw3 : w2.alloc (.cells #[.slice ad1 l.length cap1] 22) = w3 at c3n b3 c3 ⊢
        clear hw3
        refine wpAny_ready (rs := [5]) (by kernel_rfl) (by simp) ?_
        refine AllReady.cons rfl (fun K hK => ?_) AllReady.nil
        have o3 := below_own (b2.trans (b3.mono b2.size)) hes
        rw [← hlen] at o3
        refine step_app22 (by rfl) (.tmp 3) (.tmp 7) (by rfl) N vL (.slice ad1 l.length cap1) es ⟨w2.heap.size, 0, none⟩ 1 (by simp [Act.eval]) (by simp [Act.eval]) o3 c3n rfl (by omega) (Nat.le_trans hN (Nat.le_trans b2.size b3.size)) (fun vL' w4 o4 g4 l4 => ?_)
        refine hK _ _ ?_
        clear hK K
        have c4b : w4.heap[O]? = some (.cells #[vL] 29) := by
          have h3 : w3.heap[O]? = some (.cells #[vL] 29) := by rw [(b2.trans (b3.mono b2.size)).block O (lt_of_heap hO.ou)]; exact hO.ou
          rw [grown_same g4 h3 (fun e => by obtain ⟨cur, h1, _⟩ := owns_block o3 e; rw [h3] at h1; injection h1 with h1; injection h1 with _ h1; exact absurd h1 (by decide))]
          exact h3
        have c4 := cell_of_block (i := 0) c4b rfl
        have f4 := frozen_of_block (i := 0) c4b
        have fin := Shut.mk (emit_end hO hes hel hlen hx hN b2 o2 b3 o4 g4 c4b)
        obtain ⟨g', cap', cur', rfl, _⟩ : ∃ g' cap' cur', vL' = .slice (some ⟨g', 0, none⟩) (es ++ [Value.slice ad1 l.length cap1]).length cap' ∧ w4.heap[g']? = some (.cells cur' 22) := by
          rcases o4.2 with ⟨_, h⟩ | ⟨g', cap', cur', h1, _, h2, _⟩
          · simp at h
          · exact ⟨g', cap', cur', h1, h2⟩
        refine wpAny_ready (rs := [6]) (by kernel_rfl) (by simp) ?_
        refine AllReady.cons rfl (fun K hK => ?_) AllReady.nil
        go_simp
        refine hK _ _ ?_
        clear hK K
        refine wpAny_done (by kernel_rfl) ?_ _
        go_end0
        have fo := fin.out
        simp only [List.length_append, List.length_cons, List.length_nil, Nat.zero_add, hlen] at fo
        exact ⟨rfl, ⟨_, fo.1⟩, fo.2⟩
      · skip
        go_simp
        refine hK _ _ ?_
        clear hK K
        have c3n : (w2.alloc (.cells #[.slice ad1 l.length cap1] 22)).cell? ⟨w2.heap.size, 0, none⟩ = some (.slice ad1 l.length cap1) := cell_of_block (heap_alloc_new w2 _) rfl
        have b3 : Below w2.heap.size w2 (w2.alloc (.cells #[.slice ad1 l.length cap1] 22)) := (Below.refl _ _).alloc (Nat.le_refl _) _
        have c3 := below_cell (b2.trans (b3.mono b2.size)) hO.ou
        generalize hw3 : w2.alloc (.cells #[.slice ad1 l.length cap1] 22) = w3 at c3n b3 c3 ⊢
        clear hw3
        refine wpAny_ready (rs := [0]) (by kernel_rfl) (by simp) ?_
        refine AllReady.cons rfl (fun K hK => ?_) AllReady.nil
        go_simp
        refine hK _ _ ?_
        clear hK K
        refine wpAny_ready (rs := [5]) (by kernel_rfl) (by simp) ?_
        refine AllReady.cons rfl (fun K hK => ?_) AllReady.nil
        have o3 := below_own (b2.trans (b3.mono b2.size)) hes
        rw [← hlen] at o3
        refine step_app22 (by rfl) (.tmp 3) (.tmp 7) (by rfl) N vL (.slice ad1 l.length cap1) es ⟨w2.heap.size, 0, none⟩ 1 (by simp [Act.eval]) (by simp [Act.eval]) o3 c3n rfl (by omega) (Nat.le_trans hN (Nat.le_trans b2.size b3.size)) (fun vL' w4 o4 g4 l4 => ?_)
        refine hK _ _ ?_
        clear hK K
        have c4b : w4.heap[O]? = some (.cells #[vL] 29) := by
          have h3 : w3.heap[O]? = some (.cells #[vL] 29) := by rw [(b2.trans (b3.mono b2.size)).block O (lt_of_heap hO.ou)]; exact hO.ou
          rw [grown_same g4 h3 (fun e => by obtain ⟨cur, h1, _⟩ := owns_block o3 e; rw [h3] at h1; injection h1 with h1; injection h1 with _ h1; exact absurd h1 (by decide))]
          exact h3
        have c4 := cell_of_block (i := 0) c4b rfl
        have f4 := frozen_of_block (i := 0) c4b
        have fin := Shut.mk (emit_end hO hes hel hlen hx hN b2 o2 b3 o4 g4 c4b)
        obtain ⟨g', cap', cur', rfl, _⟩ : ∃ g' cap' cur', vL' = .slice (some ⟨g', 0, none⟩) (es ++ [Value.slice ad1 l.length cap1]).length cap' ∧ w4.heap[g']? = some (.cells cur' 22) := by
          rcases o4.2 with ⟨_, h⟩ | ⟨g', cap', cur', h1, _, h2, _⟩
          · simp at h
          · exact ⟨g', cap', cur', h1, h2⟩
        refine wpAny_ready (rs := [6]) (by kernel_rfl) (by simp) ?_
        refine AllReady.cons rfl (fun K hK => ?_) AllReady.nil
        go_simp
        refine hK _ _ ?_
        clear hK K
        refine wpAny_done (by kernel_rfl) ?_ _
        go_end0
        have fo := fin.out
        simp only [List.length_append, List.length_cons, List.length_nil, Nat.zero_add, hlen] at fo
        exact ⟨rfl, ⟨_, fo.1⟩, fo.2⟩

end Go.Proofs.Qxb6609191aDoor
