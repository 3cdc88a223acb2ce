/-
  Seat b6606413aF: a chain of || over comparisons of one variable, clause by clause.
-/
import Derived.Test.Qxb6606413aFmtM1
namespace Go.Proofs.Qxb6606413aFmt
open Go.RowKit Go.Lib

/-- The frame: the variable lies in slot 0, the chain's answer so far in slot m. -/
structure Cl (N : Nat) (r : Int) (m : Nat) (b : Bool) (a : Act) : Prop where
  d : a.defers = []
  n : a.tmps.size = N
  z : a.tmps[0]? = some (.int .i32 r)
  m : a.tmps[m]? = some (.bool b)

theorem eval_of {a : Act} {i : Nat} {v : Value} (h : a.tmps[i]? = some v) : a.eval (.tmp i) = v := by
  simp [Act.eval, h]

theorem put_same {a : Act} {i : Nat} {v : Value} (h : i < a.tmps.size) : (a.put (some i) v).tmps[i]? = some v := by
  simp [Act.put, h]
theorem put_other {a : Act} {i j : Nat} {v : Value} (h : i ≠ j) : (a.put (some i) v).tmps[j]? = a.tmps[j]? := by
  simp [Act.put, Array.getElem?_setIfInBounds_ne h]
theorem put_size {a : Act} {i : Nat} {v : Value} : (a.put (some i) v).tmps.size = a.tmps.size := by
  simp [Act.put]
theorem put_defers {a : Act} {i : Nat} {v : Value} : (a.put (some i) v).defers = a.defers := by
  simp [Act.put]

theorem list_go {P : Program} {ops : Array Oper} {Q : Exit → Act → World → Prop} {a : Act} {w : World} {rest : List Oper} {o : Oper} (v : Value)
    (hw : Region.wanted o (yielded ops a.tmps) = true) (hv : (execOp a.eval o).run P w = .ok (.value v) w) (h : wpList P ops Q rest (a.put o.dst v) w) : wpList P ops Q (o :: rest) a w :=
  wpList_step fun K hK => by
    rw [if_pos hw]
    unfold Oper.wp
    rw [hv]
    exact hK _ _ h

theorem list_not {P : Program} {ops : Array Oper} {Q : Exit → Act → World → Prop} {a : Act} {w : World} {rest : List Oper} {o : Oper}
    (hw : Region.wanted o (yielded ops a.tmps) = false) (h : wpList P ops Q rest (a.put o.dst undef) w) : wpList P ops Q (o :: rest) a w :=
  wpList_step fun K hK => by
    rw [if_neg (by simp [hw])]
    exact hK _ _ h

theorem yields_of {ops : Array Oper} {a : Act} {j k : Nat} {b : Bool} (hj : (ops[j]?).bind (·.dst) = some k) (h : a.tmps[k]? = some (.bool b)) : yielded ops a.tmps j = some b := by
  simp [yielded, hj, h]

theorem want_yes {ops : Array Oper} {o : Oper} {a : Act} {j k : Nat} (b : Bool) (hg : o.guard = some (j, b)) (hj : (ops[j]?).bind (·.dst) = some k) (h : a.tmps[k]? = some (.bool b)) : Region.wanted o (yielded ops a.tmps) = true := by
  simp [Region.wanted, hg, yields_of hj h]
theorem want_no {ops : Array Oper} {o : Oper} {a : Act} {j k : Nat} (b : Bool) (hg : o.guard = some (j, !b)) (hj : (ops[j]?).bind (·.dst) = some k) (h : a.tmps[k]? = some (.bool b)) : Region.wanted o (yielded ops a.tmps) = false := by
  simp [Region.wanted, hg, yields_of hj h]
theorem want_un {ops : Array Oper} {o : Oper} {a : Act} {j k : Nat} (b : Bool) (hg : o.guard = some (j, b)) (hj : (ops[j]?).bind (·.dst) = some k) (h : a.tmps[k]? = some undef) : Region.wanted o (yielded ops a.tmps) = false := by
  simp [Region.wanted, hg, yielded, hj, h, undef]

section
variable {w : World} {a : Act} {i j : Nat} {r c : Int} {d : Option Tmp} {t : TypeId} {p : String} {f : Array Edge} {g : Option (Nat × Bool)}

theorem run_move {v : Value} (h : a.tmps[i]? = some v) :
    (execOp a.eval { dst := d, op := .move (.tmp i), type := t, pos := p, after := f, guard := g }).run Tryf.prog w = .ok (.value v) w := by
  go_simp
theorem run_eq (h : a.tmps[i]? = some (.int .i32 r)) :
    (execOp a.eval { dst := d, op := .binOp .eql 21 (.tmp i) (.const (.int .i32 c)) 21, type := t, pos := p, after := f, guard := g }).run Tryf.prog w = .ok (.value (.bool (r == c))) w := by
  go_simp
theorem run_ge (h : a.tmps[i]? = some (.int .i32 r)) :
    (execOp a.eval { dst := d, op := .binOp .geq 21 (.tmp i) (.const (.int .i32 c)) 21, type := t, pos := p, after := f, guard := g }).run Tryf.prog w = .ok (.value (.bool (decide (c ≤ r)))) w := by
  go_simp
theorem run_le (h : a.tmps[i]? = some (.int .i32 r)) :
    (execOp a.eval { dst := d, op := .binOp .leq 21 (.tmp i) (.const (.int .i32 c)) 21, type := t, pos := p, after := f, guard := g }).run Tryf.prog w = .ok (.value (.bool (decide (r ≤ c)))) w := by
  go_simp
theorem run_or1 (h : a.tmps[i]? = some (.bool true)) :
    (execOp a.eval { dst := d, op := .pick (.tmp i) (.const (.bool true)) (.tmp j), type := t, pos := p, after := f, guard := g }).run Tryf.prog w = .ok (.value (.bool true)) w := by
  go_simp
theorem run_or2 {v : Value} (h : a.tmps[i]? = some (.bool false)) (h2 : a.tmps[j]? = some v) :
    (execOp a.eval { dst := d, op := .pick (.tmp i) (.const (.bool true)) (.tmp j), type := t, pos := p, after := f, guard := g }).run Tryf.prog w = .ok (.value v) w := by
  go_simp
theorem run_and1 (h : a.tmps[i]? = some (.bool false)) :
    (execOp a.eval { dst := d, op := .pick (.tmp i) (.tmp j) (.const (.bool false)), type := t, pos := p, after := f, guard := g }).run Tryf.prog w = .ok (.value (.bool false)) w := by
  go_simp
theorem run_and2 {v : Value} (h : a.tmps[i]? = some (.bool true)) (h2 : a.tmps[j]? = some v) :
    (execOp a.eval { dst := d, op := .pick (.tmp i) (.tmp j) (.const (.bool false)), type := t, pos := p, after := f, guard := g }).run Tryf.prog w = .ok (.value v) w := by
  go_simp
end

section
variable {w : World} {N : Nat} {ops : Array Oper} {Q : Exit → Act → World → Prop} {rest : List Oper} {r c c2 : Int} {m : Nat} {b : Bool}

/-- One clause 'or r is c'. -/
theorem clause_eq {j k k1 k2 k3 : Nat} {t1 t2 t3 t4 p1 p2 p3 p4 f1 f2 f3 f4} (hj : (ops[j]?).bind (·.dst) = some k)
    (h0 : 0 < k) (h1 : k < k1) (h2 : k1 < k2) (h3 : k2 < k3) (h4 : k3 < N)
    (h : ∀ a, Cl N r k3 (b || r == c) a → wpList Tryf.prog ops Q rest a w) (a : Act) (ha : Cl N r m b a) :
    wpList Tryf.prog ops Q
      ({ dst := some k, op := .move (.tmp m), type := t1, pos := p1, after := f1, guard := none } ::
       { dst := some k1, op := .move (.tmp 0), type := t2, pos := p2, after := f2, guard := some (j, false) } ::
       { dst := some k2, op := .binOp .eql 21 (.tmp k1) (.const (.int .i32 c)) 21, type := t3, pos := p3, after := f3, guard := some (j, false) } ::
       { dst := some k3, op := .pick (.tmp k) (.const (.bool true)) (.tmp k2), type := t4, pos := p4, after := f4, guard := none } :: rest) a w := by
  refine list_go (.bool b) rfl (run_move ha.m) ?_
  have e1 : (a.put (some k) (.bool b)).tmps[k]? = some (.bool b) := put_same (by rw [ha.n]; omega)
  have z1 : (a.put (some k) (.bool b)).tmps[0]? = some (.int .i32 r) := by rw [put_other (by omega)]; exact ha.z
  have n1 : (a.put (some k) (.bool b)).tmps.size = N := by rw [put_size]; exact ha.n
  have d1 : (a.put (some k) (.bool b)).defers = [] := by rw [put_defers]; exact ha.d
  dsimp only
  generalize a.put (some k) (.bool b) = a1 at *
  have y1 := yields_of hj e1
  cases b with
  | true =>
    refine list_not (by simp [Region.wanted, y1]) ?_
    dsimp only
    refine list_not (want_no true rfl hj (by rw [put_other (by omega)]; exact e1)) ?_
    dsimp only
    refine list_go (.bool true) rfl (run_or1 (by rw [put_other (by omega), put_other (by omega)]; exact e1)) ?_
    refine h _ ⟨?_, ?_, ?_, ?_⟩
    · simp only [put_defers, d1]
    · simp only [put_size, n1]
    · rw [put_other (by omega), put_other (by omega), put_other (by omega)]; exact z1
    · rw [put_same (by simp only [put_size]; omega)]; rfl
  | false =>
    refine list_go (.int .i32 r) (by simp [Region.wanted, y1]) (run_move z1) ?_
    dsimp only
    refine list_go (.bool (r == c)) (want_yes false rfl hj (by rw [put_other (by omega)]; exact e1)) (run_eq (r := r) (put_same (by omega))) ?_
    dsimp only
    refine list_go (.bool (r == c)) rfl (run_or2 (by rw [put_other (by omega), put_other (by omega)]; exact e1) (put_same (by simp only [put_size]; omega))) ?_
    refine h _ ⟨?_, ?_, ?_, ?_⟩
    · simp only [put_defers, d1]
    · simp only [put_size, n1]
    · rw [put_other (by omega), put_other (by omega), put_other (by omega)]; exact z1
    · rw [put_same (by simp only [put_size]; omega), Bool.false_or]

/-- One clause 'or c is at most r and r at most c2'. -/
theorem clause_in {j j2 k k1 k2 k3 k4 k5 k6 k7 : Nat} {t1 t2 t3 t4 t5 t6 t7 t8 p1 p2 p3 p4 p5 p6 p7 p8 f1 f2 f3 f4 f5 f6 f7 f8} (hj : (ops[j]?).bind (·.dst) = some k) (hj2 : (ops[j2]?).bind (·.dst) = some k3)
    (h0 : 0 < k) (h1 : k < k1) (h2 : k1 < k2) (h3 : k2 < k3) (h4 : k3 < k4) (h5 : k4 < k5) (h6 : k5 < k6) (h7 : k6 < k7) (h8 : k7 < N)
    (h : ∀ a, Cl N r k7 (b || (decide (c ≤ r) && decide (r ≤ c2))) a → wpList Tryf.prog ops Q rest a w) (a : Act) (ha : Cl N r m b a) :
    wpList Tryf.prog ops Q
      ({ dst := some k, op := .move (.tmp m), type := t1, pos := p1, after := f1, guard := none } ::
       { dst := some k1, op := .move (.tmp 0), type := t2, pos := p2, after := f2, guard := some (j, false) } ::
       { dst := some k2, op := .binOp .geq 21 (.tmp k1) (.const (.int .i32 c)) 21, type := t3, pos := p3, after := f3, guard := some (j, false) } ::
       { dst := some k3, op := .move (.tmp k2), type := t4, pos := p4, after := f4, guard := some (j, false) } ::
       { dst := some k4, op := .move (.tmp 0), type := t5, pos := p5, after := f5, guard := some (j2, true) } ::
       { dst := some k5, op := .binOp .leq 21 (.tmp k4) (.const (.int .i32 c2)) 21, type := t6, pos := p6, after := f6, guard := some (j2, true) } ::
       { dst := some k6, op := .pick (.tmp k3) (.tmp k5) (.const (.bool false)), type := t7, pos := p7, after := f7, guard := some (j, false) } ::
       { dst := some k7, op := .pick (.tmp k) (.const (.bool true)) (.tmp k6), type := t8, pos := p8, after := f8, guard := none } :: rest) a w := by
  refine list_go (.bool b) rfl (run_move ha.m) ?_
  have e1 : (a.put (some k) (.bool b)).tmps[k]? = some (.bool b) := put_same (by rw [ha.n]; omega)
  have z1 : (a.put (some k) (.bool b)).tmps[0]? = some (.int .i32 r) := by rw [put_other (by omega)]; exact ha.z
  have n1 : (a.put (some k) (.bool b)).tmps.size = N := by rw [put_size]; exact ha.n
  have d1 : (a.put (some k) (.bool b)).defers = [] := by rw [put_defers]; exact ha.d
  dsimp only
  generalize a.put (some k) (.bool b) = a1 at *
  have y1 := yields_of hj e1
  cases b with
  | true =>
    refine list_not (by simp [Region.wanted, y1]) ?_
    dsimp only
    refine list_not (want_no true rfl hj (by rw [put_other (by omega)]; exact e1)) ?_
    dsimp only
    refine list_not (want_no true rfl hj (by rw [put_other (by omega), put_other (by omega)]; exact e1)) ?_
    dsimp only
    refine list_not (want_un true rfl hj2 (put_same (by simp only [put_size]; omega))) ?_
    dsimp only
    refine list_not (want_un true rfl hj2 (by rw [put_other (by omega)]; exact put_same (by simp only [put_size]; omega))) ?_
    dsimp only
    refine list_not (want_no true rfl hj (by rw [put_other (by omega), put_other (by omega), put_other (by omega), put_other (by omega), put_other (by omega)]; exact e1)) ?_
    dsimp only
    refine list_go (.bool true) rfl (run_or1 (by rw [put_other (by omega), put_other (by omega), put_other (by omega), put_other (by omega), put_other (by omega), put_other (by omega)]; exact e1)) ?_
    refine h _ ⟨?_, ?_, ?_, ?_⟩
    · simp only [put_defers, d1]
    · simp only [put_size, n1]
    · rw [put_other (by omega), put_other (by omega), put_other (by omega), put_other (by omega), put_other (by omega), put_other (by omega), put_other (by omega)]; exact z1
    · rw [put_same (by simp only [put_size]; omega)]; rfl
  | false =>
    refine list_go (.int .i32 r) (by simp [Region.wanted, y1]) (run_move z1) ?_
    dsimp only
    refine list_go (.bool (decide (c ≤ r))) (want_yes false rfl hj (by rw [put_other (by omega)]; exact e1)) (run_ge (r := r) (put_same (by omega))) ?_
    dsimp only
    refine list_go (.bool (decide (c ≤ r))) (want_yes false rfl hj (by rw [put_other (by omega), put_other (by omega)]; exact e1)) (run_move (put_same (by simp only [put_size]; omega))) ?_
    dsimp only
    have e2 : ∀ x y z : Value, ((((a1.put (some k1) x).put (some k2) y).put (some k3) z)).tmps[k]? = some (.bool false) := fun _ _ _ => by
      rw [put_other (by omega), put_other (by omega), put_other (by omega)]; exact e1
    have z2 : ∀ x y z : Value, ((((a1.put (some k1) x).put (some k2) y).put (some k3) z)).tmps[0]? = some (.int .i32 r) := fun _ _ _ => by
      rw [put_other (by omega), put_other (by omega), put_other (by omega)]; exact z1
    have n2 : ∀ x y z : Value, ((((a1.put (some k1) x).put (some k2) y).put (some k3) z)).tmps.size = N := fun _ _ _ => by
      simp only [put_size, n1]
    have d2 : ∀ x y z : Value, ((((a1.put (some k1) x).put (some k2) y).put (some k3) z)).defers = [] := fun _ _ _ => by
      simp only [put_defers, d1]
    have s2 : ∀ x y z : Value, ((((a1.put (some k1) x).put (some k2) y).put (some k3) z)).tmps[k3]? = some z := fun _ _ _ => 
      put_same (by simp only [put_size]; omega)
    replace e2 := e2 (.int .i32 r) (.bool (decide (c ≤ r))) (.bool (decide (c ≤ r)))
    replace z2 := z2 (.int .i32 r) (.bool (decide (c ≤ r))) (.bool (decide (c ≤ r)))
    replace n2 := n2 (.int .i32 r) (.bool (decide (c ≤ r))) (.bool (decide (c ≤ r)))
    replace d2 := d2 (.int .i32 r) (.bool (decide (c ≤ r))) (.bool (decide (c ≤ r)))
    replace s2 := s2 (.int .i32 r) (.bool (decide (c ≤ r))) (.bool (decide (c ≤ r)))
    generalize (((a1.put (some k1) (.int .i32 r)).put (some k2) (.bool (decide (c ≤ r)))).put (some k3) (.bool (decide (c ≤ r)))) = a2 at *
    have y2 := yields_of hj2 s2
    generalize decide (c ≤ r) = q at *
    cases q with
    | true =>
      refine list_go (.int .i32 r) (by simp [Region.wanted, y2]) (run_move z2) ?_
      dsimp only
      refine list_go (.bool (decide (r ≤ c2))) (want_yes true rfl hj2 (by rw [put_other (by omega)]; exact s2)) (run_le (r := r) (put_same (by omega))) ?_
      dsimp only
      refine list_go (.bool (decide (r ≤ c2))) (want_yes false rfl hj (by rw [put_other (by omega), put_other (by omega)]; exact e2)) (run_and2 (by rw [put_other (by omega), put_other (by omega)]; exact s2) (put_same (by simp only [put_size]; omega))) ?_
      dsimp only
      refine list_go (.bool (decide (r ≤ c2))) rfl (run_or2 (by rw [put_other (by omega), put_other (by omega), put_other (by omega)]; exact e2) (put_same (by simp only [put_size]; omega))) ?_
      refine h _ ⟨?_, ?_, ?_, ?_⟩
      · simp only [put_defers, d2]
      · simp only [put_size, n2]
      · rw [put_other (by omega), put_other (by omega), put_other (by omega), put_other (by omega)]; exact z2
      · rw [put_same (by simp only [put_size]; omega)]; rfl
    | false =>
      refine list_not (by simp [Region.wanted, y2]) ?_
      dsimp only
      refine list_not (want_no false rfl hj2 (by rw [put_other (by omega)]; exact s2)) ?_
      dsimp only
      refine list_go (.bool false) (want_yes false rfl hj (by rw [put_other (by omega), put_other (by omega)]; exact e2)) (run_and1 (by rw [put_other (by omega), put_other (by omega)]; exact s2)) ?_
      dsimp only
      refine list_go (.bool false) rfl (run_or2 (by rw [put_other (by omega), put_other (by omega), put_other (by omega)]; exact e2) (put_same (by simp only [put_size]; omega))) ?_
      refine h _ ⟨?_, ?_, ?_, ?_⟩
      · simp only [put_defers, d2]
      · simp only [put_size, n2]
      · rw [put_other (by omega), put_other (by omega), put_other (by omega), put_other (by omega)]; exact z2
      · rw [put_same (by simp only [put_size]; omega)]; rfl
/-- The chain's head 'r is c'. -/
theorem clause_head {k k1 : Nat} {t1 t2 p1 p2 f1 f2} (h0 : 0 < k) (h1 : k < k1) (h2 : k1 < N) (a : Act) (hd : a.defers = []) (hn : a.tmps.size = N) (hz : a.tmps[0]? = some (.int .i32 r))
    (h : ∀ a, Cl N r k1 (r == c) a → wpList Tryf.prog ops Q rest a w) :
    wpList Tryf.prog ops Q
      ({ dst := some k, op := .move (.tmp 0), type := t1, pos := p1, after := f1, guard := none } ::
       { dst := some k1, op := .binOp .eql 21 (.tmp k) (.const (.int .i32 c)) 21, type := t2, pos := p2, after := f2, guard := none } :: rest) a w := by
  refine list_go (.int .i32 r) rfl (run_move hz) ?_
  dsimp only
  refine list_go (.bool (r == c)) rfl (run_eq (r := r) (put_same (by omega))) ?_
  refine h _ ⟨?_, ?_, ?_, ?_⟩
  · simp only [put_defers, hd]
  · simp only [put_size, hn]
  · rw [put_other (by omega), put_other (by omega)]; exact hz
  · rw [put_same (by simp only [put_size]; omega)]

/-- The chain's end: the answer is laid into slot 2. -/
theorem clause_end {t1 p1 f1} (a : Act) (ha : Cl N r m b a) (h2 : 2 < N) (h : ∀ a : Act, a.defers = [] → a.tmps[2]? = some (.bool b) → Q .normal a w) :
    wpList Tryf.prog ops Q [{ dst := some 2, op := .assign (.tmp m), type := t1, pos := p1, after := f1, guard := none }] a w := by
  refine list_go (.bool b) rfl ?_ ?_
  · have h := ha.m
    go_simp
  refine wpList_nil (h _ ?_ ?_)
  · rw [put_defers]; exact ha.d
  · exact put_same (by rw [ha.n]; exact h2)
end

end Go.Proofs.Qxb6606413aFmt
