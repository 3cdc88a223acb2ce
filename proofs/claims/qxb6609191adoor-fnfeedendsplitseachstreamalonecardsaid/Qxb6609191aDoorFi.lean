/-
  Seat b6609191aD: what stands while Feed runs.
-/
import Derived.Test.Qxb6609191aDoorId
namespace Go.Proofs.Qxb6609191aDoor
open Go.RowKit Go.Lib

/-- Feed's world: the splitter S holds the field vQ and the flag cr; vP is the row that is owned; O holds the lines; vp reads as the rest of the piece. -/
structure Fi (N S O : Nat) (x0 : Option Nat) (w0 w : World) (vQ : Value) (cr : Bool) (vP : Value) (part : List UInt8) (vL : Value) (LL : List (List UInt8)) (vp : Value) (pp : List UInt8) : Prop where
  hN : N ≤ w.heap.size
  hS : S < N
  ss : w.heap[S]? = some (.cells #[vQ, .bool cr] 45)
  own : w.ownsRow 0 5 1 vP part.length (part.map bv)
  ou : Ou N w O vP.ownBlock vL LL
  rp : Rb w vP.ownBlock vp pp
  os : w.os = w0.os
  tape : w.tape = w0.tape
  output : w.output = w0.output
  low : ∀ k, k < N → k ≠ S → x0 ≠ some k → w.heap[k]? = w0.heap[k]?
  xo : vP.ownBlock = x0 ∨ ∀ k, vP.ownBlock = some k → N ≤ k

theorem typ_ne {w : World} {k : Nat} {a b : Array Value} {s t : TypeId} (h1 : w.heap[k]? = some (.cells a s)) (h2 : w.heap[k]? = some (.cells b t)) : s = t := by
  rw [h1] at h2
  injection h2 with h2
  injection h2

section
variable {N S O : Nat} {x0 : Option Nat} {w0 w : World} {vQ : Value} {cr : Bool} {vP : Value} {part : List UInt8} {vL : Value} {LL : List (List UInt8)} {vp : Value} {pp : List UInt8}

theorem Fi.own_lt (h : Fi N S O x0 w0 w vQ cr vP part vL LL vp pp) : ∀ k, vP.ownBlock = some k → k < w.heap.size := fun _ hk => by
  obtain ⟨cur, hc, _⟩ := owns_block h.own hk
  exact lt_of_heap hc

/-- A list of lines in another world. -/
theorem Ou.same {w w' : World} {N O : Nat} {x x' : Option Nat} {vL : Value} {LL : List (List UInt8)} (h : Ou N w O x vL LL)
    (h29 : ∀ cur, w.heap[O]? = some (.cells cur 29) → w'.heap[O]? = w.heap[O]?)
    (h22 : ∀ (k : Nat) cur, w.heap[k]? = some (.cells cur 22) → w'.heap[k]? = w.heap[k]?)
    (h5 : ∀ (b : Nat) cur, w.heap[b]? = some (.cells cur 5) → x ≠ some b → w'.heap[b]? = w.heap[b]? ∧ x' ≠ some b) : Ou N w' O x' vL LL := by
  obtain ⟨h1, h2, es, h3, h4⟩ := h
  refine ⟨h1, by rw [h29 _ h2]; exact h2, es, owns_same h3 (fun k cur _ hk => h22 k cur hk), fun i hi => (h4 i hi).same h5⟩

/-- A field of the splitter is set. -/
theorem Fi.set (h : Fi N S O x0 w0 w vQ cr vP part vL LL vp pp) (i : Nat) (u : Value) (vQ' : Value) (cr' : Bool) (hu : (#[vQ, Value.bool cr] : Array Value).setIfInBounds i u = #[vQ', Value.bool cr']) :
    Fi N S O x0 w0 (w.setCell ⟨S, i, none⟩ u) vQ' cr' vP part vL LL vp pp := by
  have g := grown_setCell w ⟨S, i, none⟩ u
  have oth : ∀ (k : Nat) cs (t : TypeId), w.heap[k]? = some (.cells cs t) → t ≠ 45 → (w.setCell ⟨S, i, none⟩ u).heap[k]? = w.heap[k]? := fun k cs t hk ht => grown_same g hk (fun e => by
    simp only [Option.some.injEq] at e
    subst e
    exact ht (typ_ne hk h.ss))
  refine ⟨Nat.le_trans h.hN g.size, h.hS, ?_, owns_same h.own (fun k cur _ hk => oth k cur 5 hk (by decide)), h.ou.same (fun cur hk => oth _ cur 29 hk (by decide)) (fun k cur hk => oth k cur 22 hk (by decide)) (fun b cur hk hx => ⟨oth b cur 5 hk (by decide), hx⟩), h.rp.same (fun b cur hk hx => ⟨oth b cur 5 hk (by decide), hx⟩), g.os.trans h.os, g.tape.trans h.tape, g.output.trans h.output, ?_, h.xo⟩
  · rw [heap_setCell_same h.ss, hu]
  · intro k hk hks hx
    rw [g.block k (Nat.lt_of_lt_of_le hk h.hN) (fun e => by simp only [Option.some.injEq] at e; exact hks e), h.low k hk hks hx]

/-- What lies below the heap's end stays. -/
theorem Fi.below (h : Fi N S O x0 w0 w vQ cr vP part vL LL vp pp) {w' : World} (hb : Below w.heap.size w w') : Fi N S O x0 w0 w' vQ cr vP part vL LL vp pp := by
  have oth : ∀ (k : Nat) o, w.heap[k]? = some o → w'.heap[k]? = w.heap[k]? := fun k o hk => hb.block k (lt_of_heap hk)
  refine ⟨Nat.le_trans h.hN hb.size, h.hS, by rw [oth _ _ h.ss]; exact h.ss, below_own hb h.own, h.ou.same (fun cur hk => oth _ _ hk) (fun k cur hk => oth _ _ hk) (fun b cur hk hx => ⟨oth _ _ hk, hx⟩), below_rb hb h.rp, hb.os.trans h.os, hb.tape.trans h.tape, hb.output.trans h.output, ?_, h.xo⟩
  intro k hk hks hx
  rw [hb.block k (Nat.lt_of_lt_of_le hk h.hN), h.low k hk hks hx]

/-- The row has grown. -/
theorem Fi.grow (h : Fi N S O x0 w0 w vQ cr vP part vL LL vp pp) {w' : World} {v' : Value} {part' : List UInt8} (ho : w'.ownsRow 0 5 1 v' part'.length (part'.map bv)) (g : w.grownBy w' vP.ownBlock) (hl : Lies w vP v') : Fi N S O x0 w0 w' vQ cr v' part' vL LL vp pp := by
  have oth : ∀ (k : Nat) cs (t : TypeId), w.heap[k]? = some (.cells cs t) → t ≠ 5 → w'.heap[k]? = w.heap[k]? := fun k cs t hk ht => grown_same g hk (fun e => by
    obtain ⟨cur, hc, _⟩ := owns_block h.own e
    exact ht (typ_ne hk hc))
  have h5 : ∀ (b : Nat) cur, w.heap[b]? = some (.cells cur 5) → vP.ownBlock ≠ some b → w'.heap[b]? = w.heap[b]? ∧ v'.ownBlock ≠ some b := fun b cur hb hx => by
    refine ⟨grown_same g hb hx, fun e => ?_⟩
    rcases hl with hl | hl
    · rw [hl] at e; exact hx e
    · have := hl b e
      have := lt_of_heap hb
      omega
  refine ⟨Nat.le_trans h.hN g.size, h.hS, by rw [oth _ _ _ h.ss (by decide)]; exact h.ss, ho, h.ou.same (fun cur hk => oth _ _ _ hk (by decide)) (fun k cur hk => oth _ _ _ hk (by decide)) h5, h.rp.same h5, g.os.trans h.os, g.tape.trans h.tape, g.output.trans h.output, ?_, ?_⟩
  · intro k hk hks hx
    have hN := h.hN
    rw [g.block k (by omega) (fun e => ?_), h.low k hk hks hx]
    rcases h.xo with hxo | hxo
    · rw [hxo] at e; exact hx e.symm
    · have := hxo k e.symm
      omega
  · rcases hl with hl | hl
    · rw [hl]; exact h.xo
    · exact .inr fun k hk => Nat.le_trans h.hN (hl k hk)

/-- A line has been handed on. -/
theorem Fi.emit (h : Fi N S O x0 w0 w vQ cr vP part vL LL vp pp) {w' : World} {vL' : Value} {LL' : List (List UInt8)} (ho : Ou N w' O vP.ownBlock vL' LL') (g : Kc N w w') : Fi N S O x0 w0 w' vQ cr vP part vL' LL' vp pp := by
  refine ⟨Nat.le_trans h.hN g.size, h.hS, by rw [g.low S h.hS]; exact h.ss, owns_same h.own (fun k cur _ hk => g.typ k cur 5 hk (by decide) (by decide)), ho, h.rp.same (fun b cur hb hx => ⟨g.typ b cur 5 hb (by decide) (by decide), hx⟩), g.os.trans h.os, g.tape.trans h.tape, g.output.trans h.output, ?_, h.xo⟩
  intro k hk hks hx
  rw [g.low k hk, h.low k hk hks hx]

/-- The row is cut to nothing. -/
theorem Fi.cut {g cap : Nat} (h : Fi N S O x0 w0 w vQ cr (.slice (some ⟨g, 0, none⟩) part.length cap) part vL LL vp pp) : Fi N S O x0 w0 w vQ cr (.slice (some ⟨g, 0, none⟩) 0 cap) [] vL LL vp pp := by
  refine ⟨h.hN, h.hS, h.ss, ?_, h.ou, h.rp, h.os, h.tape, h.output, h.low, h.xo⟩
  rcases h.own.2 with ⟨h1, _⟩ | ⟨g', cap', cur, r1, r2, r3, r4, r5, r6, r7⟩
  · cases h1
  · injection r1 with r1 r1b r1c
    injection r1 with r1
    injection r1 with r1
    subst r1 r1c
    exact ⟨rfl, .inr ⟨g, cap, cur, rfl, r2, r3, Nat.zero_le _, r5, r6, by simp⟩⟩

/-- Another part of the piece. -/
theorem Fi.piece (h : Fi N S O x0 w0 w vQ cr vP part vL LL vp pp) {vp' : Value} {pp' : List UInt8} (hr : Rb w vP.ownBlock vp' pp') : Fi N S O x0 w0 w vQ cr vP part vL LL vp' pp' :=
  ⟨h.hN, h.hS, h.ss, h.own, h.ou, hr, h.os, h.tape, h.output, h.low, h.xo⟩

theorem Fi.c0 (h : Fi N S O x0 w0 w vQ cr vP part vL LL vp pp) : w.cell? ⟨S, 0, none⟩ = some vQ := cell_of_block h.ss rfl
theorem Fi.c1 (h : Fi N S O x0 w0 w vQ cr vP part vL LL vp pp) : w.cell? ⟨S, 1, none⟩ = some (.bool cr) := cell_of_block h.ss rfl
theorem Fi.fz (h : Fi N S O x0 w0 w vQ cr vP part vL LL vp pp) (i : Nat) : w.frozen? ⟨S, i, none⟩ = false := frozen_of_block h.ss

/-- The library's variables. -/
structure Gl (w : World) : Prop where
  tab : Lib.Utf8Tabs 1 2 w
  max : ∃ m : Int, w.cell? ⟨0, 0, none⟩ = some (.int .i64 m)

theorem Gl.same {w w' : World} (h : Gl w) (hs : ∀ k, k < 3 → w'.heap[k]? = w.heap[k]?) : Gl w' := by
  have hc : ∀ {a : Addr} {v : Value}, a.block < 3 → w.cell? a = some v → w'.cell? a = some v := fun {a v} ha hv => by
    simp only [World.cell?] at hv ⊢
    rw [hs _ ha]
    exact hv
  obtain ⟨⟨t1, t2⟩, m, hm⟩ := h
  exact ⟨⟨fun c hcc => hc (by dsimp only; omega) (t1 c hcc), fun i hi => ⟨hc (by dsimp only; omega) (t2 i hi).1, hc (by dsimp only; omega) (t2 i hi).2⟩⟩, m, hc (by dsimp only; omega) hm⟩

theorem Fi.gl (h : Fi N S O x0 w0 w vQ cr vP part vL LL vp pp) (hS : 3 ≤ S) (hx : ∀ k, x0 = some k → 3 ≤ k) (hg : Gl w0) : Gl w :=
  hg.same fun k hk => h.low k (by have := h.hS; omega) (by omega) (fun e => by have := hx k e; omega)

end

/-- append in a region that draws nothing: bytes. -/
theorem wpList_app5 {ops : Array Oper} {rest : List Oper} {w : World} {o : Oper} {a : Act} {Q : Exit → Act → World → Prop} (hgd : o.guard = none) (s y : Operand)
    (ho : o.op = .call { callee := .builtin .append, args := #[s, y], argTypes := #[22, 22] }) (B : Nat) (v vx : Value) (l m : List UInt8) (x : Option Nat)
    (hs : a.eval s = v) (hy : a.eval y = vx) (hown : w.ownsRow B 5 1 v l.length (l.map bv)) (hx : Rb w x vx m) (hlen : l.length + m.length ≤ 140737488355328) (hB : B ≤ w.heap.size)
    (h : ∀ v' w', w'.ownsRow B 5 1 v' (l ++ m).length ((l ++ m).map bv) → w.grownBy w' v.ownBlock → Lies w v v' → wpList Tryd.prog ops Q rest (a.put o.dst v') w') : wpList Tryd.prog ops Q (o :: rest) a w :=
  wpList_plain hgd fun _ hK => wp_app5 s y ho B v vx l m x hs hy hown hx hlen hB fun v' w' h2 h3 h4 => hK _ _ (h v' w' h2 h3 h4)

/-- append in a region that draws nothing: a line. -/
theorem wpList_app22 {ops : Array Oper} {rest : List Oper} {w : World} {o : Oper} {a : Act} {Q : Exit → Act → World → Prop} (hgd : o.guard = none) (s y : Operand)
    (ho : o.op = .call { callee := .builtin .append, args := #[s, y], argTypes := #[29, 29] }) (B : Nat) (v e : Value) (es : List Value) (ad : Addr) (c : Nat)
    (hs : a.eval s = v) (hy : a.eval y = .slice (some ad) 1 c) (hown : w.ownsRow B 22 1 v es.length es) (hc : w.cell? ad = some e) (h1 : e.oneCell' = true) (hlen : es.length + 1 ≤ 2097152) (hB : B ≤ w.heap.size)
    (h : ∀ v' w', w'.ownsRow B 22 1 v' (es ++ [e]).length (es ++ [e]) → w.grownBy w' v.ownBlock → Lies w v v' → wpList Tryd.prog ops Q rest (a.put o.dst v') w') : wpList Tryd.prog ops Q (o :: rest) a w :=
  wpList_plain hgd fun _ hK => wp_app22 s y ho B v e es ad c hs hy hown hc h1 hlen hB fun v' w' h2 h3 h4 => hK _ _ (h v' w' h2 h3 h4)

/-- Feed, turn by turn. -/
theorem fd_turn (part : List UInt8) (cr : Bool) (b : UInt8) (p p1 : List UInt8) (h : p1 = if cr && b == 10 then p else b :: p) : fd part cr (b :: p) = fd part false p1 := by
  subst h
  cases cr with
  | false => simp
  | true =>
    by_cases hb : b = 10
    · subst hb; simp [fd_skip]
    · rw [fd_off part b p hb]; simp [hb]

theorem before_all {p : List UInt8} {i : Nat} (hi : i ≤ p.length) (h : Before p i) : ∀ b ∈ p.take i, isE b = false := by
  intro b hb
  obtain ⟨j, hj, rfl⟩ := List.mem_iff_getElem.1 hb
  have hj2 : j < i := by rw [List.length_take] at hj; omega
  have := h j hj2
  rw [List.getD_eq_getElem?_getD, List.getElem?_eq_getElem (by omega)] at this
  rw [List.getElem_take]
  exact this

theorem before_or (p : List UInt8) : ∀ n, Before p n ∨ ∃ i, i < n ∧ Before p i ∧ isE (p.getD i 0) = true
  | 0 => .inl (Before.zero p)
  | n + 1 => by
    rcases before_or p n with h | ⟨i, h1, h2, h3⟩
    · cases hE : isE (p.getD n 0) with
      | false => exact .inl (h.succ hE)
      | true => exact .inr ⟨n, by omega, h, hE⟩
    · exact .inr ⟨i, by omega, h2, h3⟩

/-- No ending, or the first one. -/
theorem firstE_cases (p : List UInt8) : (firstE p = -1 ∧ ∀ part, fd part false p = ([], part ++ p, false)) ∨
    ∃ i : Nat, i < p.length ∧ firstE p = i ∧ ∀ part, fd part false p = ((part ++ p.take i) :: (fd [] (p.getD i 0 == 13) (p.drop (i + 1))).1, (fd [] (p.getD i 0 == 13) (p.drop (i + 1))).2) := by
  rcases before_or p p.length with hb | ⟨i, hi, hb, hE⟩
  case inr =>
    refine .inr ⟨i, hi, firstE_hit hi hb hE, fun part => ?_⟩
    have hp : p = p.take i ++ p.getD i 0 :: p.drop (i + 1) := by
      conv => lhs; rw [← List.take_append_drop i p, List.drop_eq_getElem_cons hi]
      rw [List.getD_eq_getElem?_getD, List.getElem?_eq_getElem hi]
      rfl
    conv => lhs; rw [hp]
    rw [fd_line (p.take i) part (p.getD i 0) (p.drop (i + 1)) (before_all (by omega) hb) hE]
  case inl =>
    refine .inl ⟨firstE_none hb, fun part => fd_none p part ?_⟩
    have := before_all (Nat.le_refl _) hb
    rwa [List.take_length] at this

end Go.Proofs.Qxb6609191aDoor
