/-
  Seat b6606413aF: parse, ZZparse.
-/
import Derived.Test.Qxb6606413aFmtW8
namespace Go.Proofs.Qxb6606413aFmt
open Go.RowKit Go.Lib
open Go.Extern.Stop Go.Stop Go.Extern

/-- A tuple and no error where b is true; the zero tuple and an error else. -/
def Tup (b : Bool) (u1 u2 u3 rel o1 o2 : ByteArray) (e : Ending) : Prop := match b with
  | true => e = .returned (.tuple #[.agg #[.string u1, .string u2, .string u3, .string rel, .string o1, .string o2], .nilIface])
  | false => ∃ a, e = .returned (.tuple #[.agg #[.string ⟨#[]⟩, .string ⟨#[]⟩, .string ⟨#[]⟩, .string ⟨#[]⟩, .string ⟨#[]⟩, .string ⟨#[]⟩], .iface 80 (.pointer (some a))])

/-- The three texts read as a tuple. -/
def pOK (fm : Bool) (us rel ob : ByteArray) : Bool := puOK fm us && (nameOK fm rel.data.toList && poOK fm ob)

structure Kt (w : World) (fm : Bool) (wn : World) : Prop where
  bel : Below w.heap.size w wn
  box : wn.cell? ⟨w.heap.size, 0, none⟩ = some (.bool fm)
  blk : wn.heap[w.heap.size + 1]? = some (.cells #[.string ⟨#[]⟩, .string ⟨#[]⟩, .string ⟨#[]⟩, .string ⟨#[]⟩, .string ⟨#[]⟩, .string ⟨#[]⟩] 28)
  len : w.heap.size + 2 ≤ wn.heap.size

theorem Kt.step {w a b : World} {fm : Bool} (h : Kt w fm a) (k : Below a.heap.size a b) : Kt w fm b := by
  have hl := h.len
  refine ⟨bstep h.bel k, ?_, ?_, Nat.le_trans h.len k.size⟩
  · rw [k.cell (show w.heap.size < a.heap.size by omega)]; exact h.box
  · rw [k.block _ (by omega)]; exact h.blk

theorem Kt.start (w : World) (fm : Bool) : Kt w fm ((w.alloc (.cells #[.bool fm] 42)).alloc (.cells #[.string ⟨#[]⟩, .string ⟨#[]⟩, .string ⟨#[]⟩, .string ⟨#[]⟩, .string ⟨#[]⟩, .string ⟨#[]⟩] 28)) := by
  refine ⟨((Below.refl _ w).alloc (Nat.le_refl _) _).alloc (by simp) _, ?_, ?_, by simp⟩
  · simp
  · have h := heap_alloc_new (w.alloc (.cells #[.bool fm] 42)) (.cells #[.string ⟨#[]⟩, .string ⟨#[]⟩, .string ⟨#[]⟩, .string ⟨#[]⟩, .string ⟨#[]⟩, .string ⟨#[]⟩] 28)
    have e : (w.alloc (.cells #[.bool fm] 42)).heap.size = w.heap.size + 1 := by simp
    rw [e] at h
    exact h
theorem Kt.c {w a : World} {fm : Bool} (h : Kt w fm a) : (a.cell? ⟨w.heap.size + 1, 0, none⟩ = some (.string ⟨#[]⟩) ∧ a.cell? ⟨w.heap.size + 1, 1, none⟩ = some (.string ⟨#[]⟩) ∧ a.cell? ⟨w.heap.size + 1, 2, none⟩ = some (.string ⟨#[]⟩)) ∧ a.cell? ⟨w.heap.size + 1, 3, none⟩ = some (.string ⟨#[]⟩) ∧ a.cell? ⟨w.heap.size + 1, 4, none⟩ = some (.string ⟨#[]⟩) ∧ a.cell? ⟨w.heap.size + 1, 5, none⟩ = some (.string ⟨#[]⟩) := by
  simp [World.cell?, h.blk]
theorem Kt.f {w a : World} {fm : Bool} (h : Kt w fm a) : (a.frozen? ⟨w.heap.size + 1, 0, none⟩ = false ∧ a.frozen? ⟨w.heap.size + 1, 1, none⟩ = false ∧ a.frozen? ⟨w.heap.size + 1, 2, none⟩ = false) ∧ a.frozen? ⟨w.heap.size + 1, 3, none⟩ = false ∧ a.frozen? ⟨w.heap.size + 1, 4, none⟩ = false ∧ a.frozen? ⟨w.heap.size + 1, 5, none⟩ = false := by
  simp [World.frozen?, h.blk]

/-- A block that stands. -/
structure Has (N : Nat) (cs : Array Value) (t : TypeId) (wn : World) : Prop where
  blk : wn.heap[N]? = some (.cells cs t)
  lt : N < wn.heap.size
theorem Has.new (w : World) (cs : Array Value) (t : TypeId) : Has w.heap.size cs t (w.alloc (.cells cs t)) := ⟨heap_alloc_new w _, by simp⟩
theorem Has.step {N : Nat} {cs : Array Value} {t : TypeId} {a b : World} (h : Has N cs t a) (k : Below a.heap.size a b) : Has N cs t b := ⟨by rw [k.block _ h.lt]; exact h.blk, Nat.lt_of_lt_of_le h.lt k.size⟩
theorem Has.cell {N : Nat} {cs : Array Value} {t : TypeId} {a : World} (h : Has N cs t a) (i : Nat) : a.cell? ⟨N, i, none⟩ = cs[i]? := by
  simp [World.cell?, h.blk]
theorem below_alloc (w : World) (o : Go.Obj) : Below w.heap.size w (w.alloc o) := (Below.refl _ w).alloc (Nat.le_refl _) _

set_option maxHeartbeats 4000000 in
set_option maxRecDepth 100000 in
theorem parse (F : Interp) (fm : Bool) (us rel ob : ByteArray) (w : World) (hF : F.told.answers w.tape) (hT : Tabs w) (h1 : us.size ≤ 1000000000) (h2 : rel.size ≤ 1000000000) (h3 : ob.size ≤ 1000000000) :
    Calls Tryf.prog 15 #[.agg #[.bool fm], .string us, .string rel, .string ob] w fun e w' => Tup (pOK fm us rel ob) (bef 58 us) (bef 35 (aft 58 us)) (aft 35 (aft 58 us)) rel (bef 58 ob) (aft 58 ob) e ∧ Below w.heap.size w w' := by
  have q0 := Kt.start w fm
  have k17 : ∀ wn, Below w.heap.size w wn → Calls Tryf.prog 17 #[.agg #[.bool fm], .string us] wn fun e w' => Usr (puOK fm us) (bef 58 us) (bef 35 (aft 58 us)) (aft 35 (aft 58 us)) e ∧ Below wn.heap.size wn w' := fun wn h => parseUser F fm us wn (by rw [h.tape]; exact hF) (hT.below h) h1
  have k16 : ∀ wn, Below w.heap.size w wn → Calls Tryf.prog 16 #[.agg #[.bool fm], .string ⟨#[114, 101, 108, 97, 116, 105, 111, 110]⟩, .string rel] wn fun e w' => ErrIff (nameOK fm rel.data.toList) e ∧ Below wn.heap.size wn w' := fun wn h => checkName F fm _ rel wn (by rw [h.tape]; exact hF) (hT.below h) (by decide) h2
  have k19 : ∀ wn, Below w.heap.size w wn → Calls Tryf.prog 19 #[.agg #[.bool fm], .string ob] wn fun e w' => Obj2 (poOK fm ob) (bef 58 ob) (aft 58 ob) e ∧ Below wn.heap.size wn w' := fun wn h => parseObject F fm ob wn (by rw [h.tape]; exact hF) (hT.below h) h3
  unfold pOK
  generalize bef 58 us = u1 at *
  generalize bef 35 (aft 58 us) = u2 at *
  generalize aft 35 (aft 58 us) = u3 at *
  generalize bef 58 ob = o1 at *
  generalize aft 58 ob = o2 at *
  generalize puOK fm us = ok1 at *
  generalize nameOK fm rel.data.toList = ok2 at *
  generalize poOK fm ob = ok3 at *
  clear hF hT
  cases ok1 with
  | false =>
    rw [Bool.false_and]
    go_enter Tryf.func15, Tryf.ntmps15
    go_wp2_with (first
      | (go_at_call 17; refine (k17 _ q0.bel).mono ?_; rintro e w1 ⟨⟨a1, rfl⟩, hb1⟩; have q1 := (q0.step hb1).step (below_alloc w1 (.cells #[.string ⟨#[]⟩, .string ⟨#[]⟩, .string ⟨#[]⟩] 24)); have hx1 := q1.box; obtain ⟨⟨ca1, cb1, cc1⟩, cd1, ce1, cf1⟩ := q1.c; obtain ⟨⟨fa1, fb1, fc1⟩, fd1, fe1, ff1⟩ := q1.f))
    (try simp only [Exit.inBlock, Exit.then])
    refine bodyPost_ret (v := .tuple #[.agg #[.string ⟨#[]⟩, .string ⟨#[]⟩, .string ⟨#[]⟩, .string ⟨#[]⟩, .string ⟨#[]⟩, .string ⟨#[]⟩], .iface 80 (.pointer (some a1))]) ?_ rfl ⟨⟨_, rfl⟩, ?_⟩
    · rw [results_cell_tmp rfl]
      go_simp
    · exact (((((q1.bel.setCell (by simp) _).setCell (by simp) _).setCell (by simp) _).setCell (by simp) _).setCell (by simp) _).setCell (by simp) _
  | true =>
    rw [Bool.true_and]
    cases ok2 with
    | false =>
      rw [Bool.false_and]
      go_enter Tryf.func15, Tryf.ntmps15
      go_wp2_with (first
        | (go_at_call 16; refine (k16 _ q1.bel).mono ?_; rintro e w2 ⟨⟨a2, rfl⟩, hb2⟩; have q2 := q1.step hb2; have hx2 := q2.box; obtain ⟨⟨ca2, cb2, cc2⟩, cd2, ce2, cf2⟩ := q2.c; obtain ⟨⟨fa2, fb2, fc2⟩, fd2, fe2, ff2⟩ := q2.f)
        | (go_at_call 17; refine (k17 _ q0.bel).mono ?_; rintro e w1 ⟨he1, hb1⟩; have he1' : e = .returned (.tuple #[.agg #[.string u1, .string u2, .string u3], .nilIface]) := he1; subst he1'; clear he1; have q1 := (q0.step hb1).step (below_alloc w1 (.cells #[.string u1, .string u2, .string u3] 24)); have H1 := Has.new w1 #[.string u1, .string u2, .string u3] 24; have hx1 := q1.box; obtain ⟨⟨ca1, cb1, cc1⟩, cd1, ce1, cf1⟩ := q1.c; obtain ⟨⟨fa1, fb1, fc1⟩, fd1, fe1, ff1⟩ := q1.f))
      (try simp only [Exit.inBlock, Exit.then])
      refine bodyPost_ret (v := .tuple #[.agg #[.string ⟨#[]⟩, .string ⟨#[]⟩, .string ⟨#[]⟩, .string ⟨#[]⟩, .string ⟨#[]⟩, .string ⟨#[]⟩], .iface 80 (.pointer (some a2))]) ?_ rfl ⟨⟨_, rfl⟩, ?_⟩
      · rw [results_cell_tmp rfl]
        go_simp
      · exact (((((q2.bel.setCell (by simp) _).setCell (by simp) _).setCell (by simp) _).setCell (by simp) _).setCell (by simp) _).setCell (by simp) _
    | true =>
      rw [Bool.true_and]
      cases ok3 with
      | false =>
        go_enter Tryf.func15, Tryf.ntmps15
        go_wp2_with (first
          | (go_at_call 19; refine (k19 w2 q2.bel).mono ?_; rintro e w3 ⟨⟨a3, rfl⟩, hb3⟩; have q3 := (q2.step hb3).step (below_alloc w3 (.cells #[.string ⟨#[]⟩, .string ⟨#[]⟩] 26)); have hx3 := q3.box; obtain ⟨⟨ca3, cb3, cc3⟩, cd3, ce3, cf3⟩ := q3.c; obtain ⟨⟨fa3, fb3, fc3⟩, fd3, fe3, ff3⟩ := q3.f)
          | (go_at_call 16; refine (k16 _ q1.bel).mono ?_; rintro e w2 ⟨he2, hb2⟩; have he2' : e = .returned .nilIface := he2; subst he2'; clear he2; have q2 := q1.step hb2; have H2 := H1.step hb2; have hx2 := q2.box; obtain ⟨⟨ca2, cb2, cc2⟩, cd2, ce2, cf2⟩ := q2.c; obtain ⟨⟨fa2, fb2, fc2⟩, fd2, fe2, ff2⟩ := q2.f)
          | (go_at_call 17; refine (k17 _ q0.bel).mono ?_; rintro e w1 ⟨he1, hb1⟩; have he1' : e = .returned (.tuple #[.agg #[.string u1, .string u2, .string u3], .nilIface]) := he1; subst he1'; clear he1; have q1 := (q0.step hb1).step (below_alloc w1 (.cells #[.string u1, .string u2, .string u3] 24)); have H1 := Has.new w1 #[.string u1, .string u2, .string u3] 24; have hx1 := q1.box; obtain ⟨⟨ca1, cb1, cc1⟩, cd1, ce1, cf1⟩ := q1.c; obtain ⟨⟨fa1, fb1, fc1⟩, fd1, fe1, ff1⟩ := q1.f))
        (try simp only [Exit.inBlock, Exit.then])
        refine bodyPost_ret (v := .tuple #[.agg #[.string ⟨#[]⟩, .string ⟨#[]⟩, .string ⟨#[]⟩, .string ⟨#[]⟩, .string ⟨#[]⟩, .string ⟨#[]⟩], .iface 80 (.pointer (some a3))]) ?_ rfl ⟨⟨_, rfl⟩, ?_⟩
        · rw [results_cell_tmp rfl]
          go_simp
        · exact (((((q3.bel.setCell (by simp) _).setCell (by simp) _).setCell (by simp) _).setCell (by simp) _).setCell (by simp) _).setCell (by simp) _
      | true =>
        go_enter Tryf.func15, Tryf.ntmps15
        go_wp2_with (first
          | (go_at_call 19; refine (k19 w2 q2.bel).mono ?_; rintro e w3 ⟨he3, hb3⟩; have he3' : e = .returned (.tuple #[.agg #[.string o1, .string o2], .nilIface]) := he3; subst he3'; clear he3; have q3 := (q2.step hb3).step (below_alloc w3 (.cells #[.string o1, .string o2] 26)); have H3 := (H2.step hb3).step (below_alloc w3 (.cells #[.string o1, .string o2] 26)); have G3 := Has.new w3 #[.string o1, .string o2] 26; have hx3 := q3.box; obtain ⟨⟨ca3, cb3, cc3⟩, cd3, ce3, cf3⟩ := q3.c; obtain ⟨⟨fa3, fb3, fc3⟩, fd3, fe3, ff3⟩ := q3.f; have ua := H3.cell 0; have ub := H3.cell 1; have uc := H3.cell 2; have oa := G3.cell 0; have ob' := G3.cell 1)
          | (go_at_call 16; refine (k16 _ q1.bel).mono ?_; rintro e w2 ⟨he2, hb2⟩; have he2' : e = .returned .nilIface := he2; subst he2'; clear he2; have q2 := q1.step hb2; have H2 := H1.step hb2; have hx2 := q2.box; obtain ⟨⟨ca2, cb2, cc2⟩, cd2, ce2, cf2⟩ := q2.c; obtain ⟨⟨fa2, fb2, fc2⟩, fd2, fe2, ff2⟩ := q2.f)
          | (go_at_call 17; refine (k17 _ q0.bel).mono ?_; rintro e w1 ⟨he1, hb1⟩; have he1' : e = .returned (.tuple #[.agg #[.string u1, .string u2, .string u3], .nilIface]) := he1; subst he1'; clear he1; have q1 := (q0.step hb1).step (below_alloc w1 (.cells #[.string u1, .string u2, .string u3] 24)); have H1 := Has.new w1 #[.string u1, .string u2, .string u3] 24; have hx1 := q1.box; obtain ⟨⟨ca1, cb1, cc1⟩, cd1, ce1, cf1⟩ := q1.c; obtain ⟨⟨fa1, fb1, fc1⟩, fd1, fe1, ff1⟩ := q1.f))
        (try simp only [Exit.inBlock, Exit.then])
        refine bodyPost_ret (v := .tuple #[.agg #[.string u1, .string u2, .string u3, .string rel, .string o1, .string o2], .nilIface]) ?_ rfl ⟨rfl, ?_⟩
        · rw [results_cell_tmp rfl]
          go_simp
        · exact (((((q3.bel.setCell (by simp) _).setCell (by simp) _).setCell (by simp) _).setCell (by simp) _).setCell (by simp) _).setCell (by simp) _

set_option maxHeartbeats 4000000 in
set_option maxRecDepth 100000 in
theorem zzParse (F : Interp) (fm : Bool) (us rel ob : ByteArray) (w : World) (hF : F.told.answers w.tape) (hT : Tabs w) (h1 : us.size ≤ 1000000000) (h2 : rel.size ≤ 1000000000) (h3 : ob.size ≤ 1000000000) :
    Calls Tryf.prog 7 #[.bool fm, .string us, .string rel, .string ob] w fun e w' => Tup (pOK fm us rel ob) (bef 58 us) (bef 35 (aft 58 us)) (aft 35 (aft 58 us)) rel (bef 58 ob) (aft 58 ob) e ∧ Below w.heap.size w w' := by
  have hb0 := below_alloc w (.cells #[.string ⟨#[]⟩, .string ⟨#[]⟩, .string ⟨#[]⟩, .string ⟨#[]⟩, .string ⟨#[]⟩, .string ⟨#[]⟩] 28)
  have k1 := parse F fm us rel ob _ (by rw [hb0.tape]; exact hF) (hT.below hb0) h1 h2 h3
  have H0 := Has.new w #[.string ⟨#[]⟩, .string ⟨#[]⟩, .string ⟨#[]⟩, .string ⟨#[]⟩, .string ⟨#[]⟩, .string ⟨#[]⟩] 28
  generalize bef 58 us = u1 at *
  generalize bef 35 (aft 58 us) = u2 at *
  generalize aft 35 (aft 58 us) = u3 at *
  generalize bef 58 ob = o1 at *
  generalize aft 58 ob = o2 at *
  generalize pOK fm us rel ob = ok at *
  have hc : ∀ w1 : World, Has w.heap.size #[.string ⟨#[]⟩, .string ⟨#[]⟩, .string ⟨#[]⟩, .string ⟨#[]⟩, .string ⟨#[]⟩, .string ⟨#[]⟩] 28 w1 → (w1.cell? ⟨w.heap.size, 0, none⟩ = some (.string ⟨#[]⟩) ∧ w1.cell? ⟨w.heap.size, 1, none⟩ = some (.string ⟨#[]⟩) ∧ w1.cell? ⟨w.heap.size, 2, none⟩ = some (.string ⟨#[]⟩) ∧ w1.cell? ⟨w.heap.size, 3, none⟩ = some (.string ⟨#[]⟩) ∧ w1.cell? ⟨w.heap.size, 4, none⟩ = some (.string ⟨#[]⟩) ∧ w1.cell? ⟨w.heap.size, 5, none⟩ = some (.string ⟨#[]⟩)) ∧ w1.frozen? ⟨w.heap.size, 0, none⟩ = false ∧ w1.frozen? ⟨w.heap.size, 1, none⟩ = false ∧ w1.frozen? ⟨w.heap.size, 2, none⟩ = false ∧ w1.frozen? ⟨w.heap.size, 3, none⟩ = false ∧ w1.frozen? ⟨w.heap.size, 4, none⟩ = false ∧ w1.frozen? ⟨w.heap.size, 5, none⟩ = false := fun w1 h => by
    simp [World.cell?, World.frozen?, h.blk]
  have Hc := hide hc
  clear hc
  cases ok with
  | true =>
    go_enter Tryf.func7, Tryf.ntmps7
    go_wp2_with (go_at_call 15; refine k1.mono ?_; rintro e w1 ⟨he, hb1⟩; have he' : e = .returned (.tuple #[.agg #[.string u1, .string u2, .string u3, .string rel, .string o1, .string o2], .nilIface]) := he; subst he'; clear he; obtain ⟨⟨ca, cb, cc, cd, ce, cf⟩, fa, fb, fc, fd, fe, ff⟩ := Hc.out w1 (H0.step hb1))
    (try simp only [Exit.inBlock, Exit.then])
    refine bodyPost_ret (v := .tuple #[.agg #[.string u1, .string u2, .string u3, .string rel, .string o1, .string o2], .nilIface]) ?_ rfl ⟨rfl, ?_⟩
    · rw [results_cell_tmp rfl]
      go_simp
    · exact ((((((bstep hb0 hb1).setCell (by simp) _).setCell (by simp) _).setCell (by simp) _).setCell (by simp) _).setCell (by simp) _).setCell (by simp) _
  | false =>
    go_enter Tryf.func7, Tryf.ntmps7
    go_wp2_with (go_at_call 15; refine k1.mono ?_; rintro e w1 ⟨⟨a1, rfl⟩, hb1⟩; obtain ⟨⟨ca, cb, cc, cd, ce, cf⟩, fa, fb, fc, fd, fe, ff⟩ := Hc.out w1 (H0.step hb1))
    (try simp only [Exit.inBlock, Exit.then])
    refine bodyPost_ret (v := .tuple #[.agg #[.string ⟨#[]⟩, .string ⟨#[]⟩, .string ⟨#[]⟩, .string ⟨#[]⟩, .string ⟨#[]⟩, .string ⟨#[]⟩], .iface 80 (.pointer (some a1))]) ?_ rfl ⟨⟨_, rfl⟩, ?_⟩
    · rw [results_cell_tmp rfl]
      go_simp
    · exact ((((((bstep hb0 hb1).setCell (by simp) _).setCell (by simp) _).setCell (by simp) _).setCell (by simp) _).setCell (by simp) _).setCell (by simp) _

end Go.Proofs.Qxb6606413aFmt
