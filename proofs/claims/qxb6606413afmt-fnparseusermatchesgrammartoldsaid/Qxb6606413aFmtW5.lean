/-
  Seat b6606413aF: checkTypeID, checkName, CheckName, parseUser, ZZparseUser, User.String.
-/
import Derived.Test.Qxb6606413aFmtW1
import Derived.Test.Qxb6606413aFmtW4
namespace Go.Proofs.Qxb6606413aFmt
open Go.RowKit Go.Lib
open Go.Extern.Stop Go.Stop Go.Extern

theorem partOK_star (fm : Bool) : partOK fm false [42] = false := by
  have h : okGo fm 1 [42] = false := by
    simp [okGo, decodeL_ascii 42 [] (by decide), bad]
  simp [partOK, h]

theorem partOK_name (fm : Bool) (l : List UInt8) : partOK fm false l = nameOK fm l := by simp [partOK, nameOK]

/-- A type and an id. -/
def tyOK (fm wild : Bool) (ty id : List UInt8) : Bool := partOK fm false ty && partOK fm wild id

set_option maxHeartbeats 1600000 in
set_option maxRecDepth 100000 in
theorem checkTypeID (F : Interp) (fm wild : Bool) (ty id : ByteArray) (w : World) (hF : F.told.answers w.tape) (hT : Tabs w) (h1 : ty.size ≤ 1000000000) (h2 : id.size ≤ 1000000000) :
    Calls Tryf.prog 23 #[.agg #[.bool fm], .string ty, .string id, .bool wild] w fun e w' => Part (tyOK fm wild ty.data.toList id.data.toList) e ∧ Below w.heap.size w w' := by
  have hb0 : Below w.heap.size w (w.alloc (.cells #[.bool fm] 42)) := (Below.refl _ w).alloc (Nat.le_refl _) _
  have c1 : ∀ p : ByteArray, p.size ≤ 1000000000 → ∀ wn, Below w.heap.size w wn → Calls Tryf.prog 20 #[.agg #[.bool fm], .string p, .string ty, .bool false] wn fun e w' => Part (partOK fm false ty.data.toList) e ∧ Below wn.heap.size wn w' := fun p hp wn h => checkPart F fm false p ty wn (by rw [h.tape]; exact hF) (hT.below h) hp h1
  have c2 : ∀ p : ByteArray, p.size ≤ 1000000000 → ∀ wn, Below w.heap.size w wn → Calls Tryf.prog 20 #[.agg #[.bool fm], .string p, .string id, .bool wild] wn fun e w' => Part (partOK fm wild id.data.toList) e ∧ Below wn.heap.size wn w' := fun p hp wn h => checkPart F fm wild p id wn (by rw [h.tape]; exact hF) (hT.below h) hp h2
  unfold tyOK
  cases hP : partOK fm false ty.data.toList with
  | false =>
    rw [hP] at c1
    go_enter Tryf.func23, Tryf.ntmps23
    go_wp2_with (go_at_call 20; refine (c1 _ (by decide) _ hb0).mono ?_; rintro e w2 ⟨⟨t2, rfl, ht2⟩, hb2⟩)
    go_ret
    exact ⟨⟨_, rfl, ht2⟩, bstep hb0 hb2⟩
  | true =>
    rw [hP] at c1
    rw [Bool.true_and]
    cases hS : (id.toList == [42]) with
    | false =>
      go_enter Tryf.func23, Tryf.ntmps23
      go_wp2_with (first
        | (go_at_call 20; refine (c2 _ (by decide) _ hB2).mono ?_; rintro e w3 ⟨⟨t3, rfl, ht3⟩, hb3⟩)
        | (go_at_call 20; refine (c1 _ (by decide) _ hb0).mono ?_; rintro e w2 ⟨⟨t2, rfl, ht2⟩, hb2⟩; have hB2 := bstep hb0 hb2; have hx2 : w2.cell? ⟨w.heap.size, 0, none⟩ = some (.bool fm) := by (rw [hb2.cell (by simp)]; simp)))
      go_ret
      exact ⟨⟨_, rfl, ht3⟩, bstep hB2 hb3⟩
    | true =>
      cases wild with
      | true =>
        go_enter Tryf.func23, Tryf.ntmps23
        go_wp2_with (first
          | (go_at_call 20; refine (c2 _ (by decide) _ hB2).mono ?_; rintro e w3 ⟨⟨t3, rfl, ht3⟩, hb3⟩)
          | (go_at_call 20; refine (c1 _ (by decide) _ hb0).mono ?_; rintro e w2 ⟨⟨t2, rfl, ht2⟩, hb2⟩; have hB2 := bstep hb0 hb2; have hx2 : w2.cell? ⟨w.heap.size, 0, none⟩ = some (.bool fm) := by (rw [hb2.cell (by simp)]; simp)))
        go_ret
        exact ⟨⟨_, rfl, ht3⟩, bstep hB2 hb3⟩
      | false =>
        have e : id.data.toList = [42] := by
          rw [← empty_toList]
          simpa using hS
        rw [e, partOK_star]
        go_enter Tryf.func23, Tryf.ntmps23
        go_wp2_with (first
          | (go_at_call 20; refine (c2 _ (by decide) _ hB2).mono ?_; rintro e w3 ⟨⟨t3, rfl, ht3⟩, hb3⟩)
          | (go_at_call 20; refine (c1 _ (by decide) _ hb0).mono ?_; rintro e w2 ⟨⟨t2, rfl, ht2⟩, hb2⟩; have hB2 := bstep hb0 hb2; have hx2 : w2.cell? ⟨w.heap.size, 0, none⟩ = some (.bool fm) := by (rw [hb2.cell (by simp)]; simp)))
        go_ret
        exact ⟨⟨_, rfl, by rw [empty_toList]; rfl⟩, hB2⟩

/-- No error where b is true, an error else. -/
def ErrIff (b : Bool) (e : Ending) : Prop := match b with
  | true => e = .returned .nilIface
  | false => Err e

set_option maxHeartbeats 1600000 in
set_option maxRecDepth 100000 in
theorem checkName (F : Interp) (fm : Bool) (p s : ByteArray) (w : World) (hF : F.told.answers w.tape) (hT : Tabs w) (h1 : p.size ≤ 1000000000) (h2 : s.size ≤ 1000000000) :
    Calls Tryf.prog 16 #[.agg #[.bool fm], .string p, .string s] w fun e w' => ErrIff (nameOK fm s.data.toList) e ∧ Below w.heap.size w w' := by
  have hb0 : Below w.heap.size w (w.alloc (.cells #[.bool fm] 42)) := (Below.refl _ w).alloc (Nat.le_refl _) _
  have c1 : ∀ wn, Below w.heap.size w wn → Calls Tryf.prog 20 #[.agg #[.bool fm], .string p, .string s, .bool false] wn fun e w' => Part (partOK fm false s.data.toList) e ∧ Below wn.heap.size wn w' := fun wn h => checkPart F fm false p s wn (by rw [h.tape]; exact hF) (hT.below h) h1 h2
  have c2 : ∀ t : ByteArray, ∀ wn, Below w.heap.size w wn → Calls Tryf.prog 21 #[.string ⟨#[37, 115, 32, 37, 113, 58, 32, 37, 115]⟩, .slice (some ⟨wn.heap.size, 0, none⟩) 3 3] (wn.alloc (.cells #[.iface 9 (.string p), .iface 9 (.string s), .iface 9 (.string t)] 20)) fun e w' => Err e ∧ Below wn.heap.size wn w' := fun t wn h => errorf_name F.told p s t wn (by rw [h.tape]; exact hF)
  rw [partOK_name] at c1
  cases hN : nameOK fm s.data.toList with
  | true =>
    rw [hN] at c1
    go_enter Tryf.func16, Tryf.ntmps16
    go_wp2_with (go_at_call 20; refine (c1 _ hb0).mono ?_; rintro e w2 ⟨⟨t2, rfl, ht2⟩, hb2⟩)
    go_ret
    exact ⟨rfl, bstep hb0 hb2⟩
  | false =>
    rw [hN] at c1
    go_enter Tryf.func16, Tryf.ntmps16
    go_wp2_with (first | (go_at_call 20; refine (c1 _ hb0).mono ?_; rintro e w2 ⟨⟨t2, rfl, ht2⟩, hb2⟩; have hB2 := bstep hb0 hb2) | (go_at_call 21; refine (c2 _ _ hB2).mono ?_; rintro e w3 ⟨⟨a3, rfl⟩, hb3⟩))
    go_ret
    exact ⟨⟨_, rfl⟩, bstep hB2 hb3⟩


set_option maxHeartbeats 1600000 in
set_option maxRecDepth 100000 in
theorem checkNameT (F : Interp) (p s : ByteArray) (w : World) (hF : F.told.answers w.tape) (hT : Tabs w) (hv : w.cell? ⟨0, 0, none⟩ = some (.bool false)) (h1 : p.size ≤ 1000000000) (h2 : s.size ≤ 1000000000) :
    Calls Tryf.prog 10 #[.string p, .string s] w fun e w' => ErrIff (nameOK false s.data.toList) e ∧ Below w.heap.size w w' := by
  have c1 := checkName F false p s w hF hT h1 h2
  cases hN : nameOK false s.data.toList with
  | true =>
    rw [hN] at c1
    go_enter Tryf.func10, Tryf.ntmps10
    go_wp2_with (go_at_call 16; refine c1.mono ?_; rintro e w2 ⟨he, hb2⟩; have he' : e = .returned .nilIface := he; subst he'; clear he)
    go_ret
    exact ⟨rfl, hb2⟩
  | false =>
    rw [hN] at c1
    go_enter Tryf.func10, Tryf.ntmps10
    go_wp2_with (go_at_call 16; refine c1.mono ?_; rintro e w2 ⟨⟨a2, rfl⟩, hb2⟩)
    go_ret
    exact ⟨⟨_, rfl⟩, hb2⟩

/-- A user and no error where b is true; the zero user and an error else. -/
def Usr (b : Bool) (ty id rel : ByteArray) (e : Ending) : Prop := match b with
  | true => e = .returned (.tuple #[.agg #[.string ty, .string id, .string rel], .nilIface])
  | false => ∃ a, e = .returned (.tuple #[.agg #[.string ⟨#[]⟩, .string ⟨#[]⟩, .string ⟨#[]⟩], .iface 80 (.pointer (some a))])

/-- The text reads as a user. -/
def puOK (fm : Bool) (s : ByteArray) : Bool :=
  hasB 58 s && (tyOK fm (!hasB 35 (aft 58 s)) (bef 58 s).data.toList (bef 35 (aft 58 s)).data.toList && (!hasB 35 (aft 58 s) || nameOK fm (aft 35 (aft 58 s)).data.toList))

/-- The worlds on parseUser's road: the reader's box, the result's block, what was there before. -/
structure Kp (w : World) (fm : Bool) (wn : World) : Prop where
  bel : Below w.heap.size w wn
  box : wn.cell? ⟨w.heap.size, 0, none⟩ = some (.bool fm)
  blk : wn.heap[w.heap.size + 1]? = some (.cells #[.string ⟨#[]⟩, .string ⟨#[]⟩, .string ⟨#[]⟩] 24)
  len : w.heap.size + 2 ≤ wn.heap.size

theorem Kp.step {w a b : World} {fm : Bool} (h : Kp w fm a) (k : Below a.heap.size a b) : Kp w fm b := by
  have hl := h.len
  refine ⟨bstep h.bel k, ?_, ?_, Nat.le_trans h.len k.size⟩
  · rw [k.cell (show w.heap.size < a.heap.size by omega)]; exact h.box
  · rw [k.block _ (by omega)]; exact h.blk

theorem Kp.start (w : World) (fm : Bool) : Kp w fm ((w.alloc (.cells #[.bool fm] 42)).alloc (.cells #[.string ⟨#[]⟩, .string ⟨#[]⟩, .string ⟨#[]⟩] 24)) := by
  refine ⟨((Below.refl _ w).alloc (Nat.le_refl _) _).alloc (by simp) _, ?_, ?_, by simp⟩
  · simp
  · have h := heap_alloc_new (w.alloc (.cells #[.bool fm] 42)) (.cells #[.string ⟨#[]⟩, .string ⟨#[]⟩, .string ⟨#[]⟩] 24)
    have e : (w.alloc (.cells #[.bool fm] 42)).heap.size = w.heap.size + 1 := by simp
    rw [e] at h
    exact h

theorem Kp.c {w a : World} {fm : Bool} (h : Kp w fm a) : a.cell? ⟨w.heap.size + 1, 0, none⟩ = some (.string ⟨#[]⟩) ∧ a.cell? ⟨w.heap.size + 1, 1, none⟩ = some (.string ⟨#[]⟩) ∧ a.cell? ⟨w.heap.size + 1, 2, none⟩ = some (.string ⟨#[]⟩) := by
  simp [World.cell?, h.blk]
theorem Kp.f {w a : World} {fm : Bool} (h : Kp w fm a) : a.frozen? ⟨w.heap.size + 1, 0, none⟩ = false ∧ a.frozen? ⟨w.heap.size + 1, 1, none⟩ = false ∧ a.frozen? ⟨w.heap.size + 1, 2, none⟩ = false := by
  simp [World.frozen?, h.blk]

set_option maxHeartbeats 1600000 in
set_option maxRecDepth 100000 in
theorem parseUser (F : Interp) (fm : Bool) (s : ByteArray) (w : World) (hF : F.told.answers w.tape) (hT : Tabs w) (hs : s.size ≤ 1000000000) :
    Calls Tryf.prog 17 #[.agg #[.bool fm], .string s] w fun e w' => Usr (puOK fm s) (bef 58 s) (bef 35 (aft 58 s)) (aft 35 (aft 58 s)) e ∧ Below w.heap.size w w' := by
  have q0 := Kp.start w fm
  have hra : (aft 58 s).size ≤ 1000000000 := Nat.le_trans (aft_size 58 s) hs
  have k1 : ∀ wn, Calls Tryf.prog 22 #[.string s, .string ⟨#[58]⟩] wn fun e w' => e = .returned (.tuple #[.string (bef 58 s), .string (aft 58 s), .bool (hasB 58 s)]) ∧ Below wn.heap.size wn w' := fun wn => cut1 s 58 wn hs
  have k2 : ∀ wn, Calls Tryf.prog 22 #[.string (aft 58 s), .string ⟨#[35]⟩] wn fun e w' => e = .returned (.tuple #[.string (bef 35 (aft 58 s)), .string (aft 35 (aft 58 s)), .bool (hasB 35 (aft 58 s))]) ∧ Below wn.heap.size wn w' := fun wn => cut1 (aft 58 s) 35 wn hra
  have k3 : ∀ wn, Below w.heap.size w wn → Calls Tryf.prog 23 #[.agg #[.bool fm], .string (bef 58 s), .string (bef 35 (aft 58 s)), .bool (!hasB 35 (aft 58 s))] wn fun e w' => Part (tyOK fm (!hasB 35 (aft 58 s)) (bef 58 s).data.toList (bef 35 (aft 58 s)).data.toList) e ∧ Below wn.heap.size wn w' := fun wn h => checkTypeID F fm _ _ _ wn (by rw [h.tape]; exact hF) (hT.below h) (Nat.le_trans (bef_size 58 s) hs) (Nat.le_trans (bef_size 35 _) hra)
  have k4 : ∀ wn, Below w.heap.size w wn → Calls Tryf.prog 20 #[.agg #[.bool fm], .string ⟨#[114, 101, 108, 97, 116, 105, 111, 110]⟩, .string (aft 35 (aft 58 s)), .bool false] wn fun e w' => Part (nameOK fm (aft 35 (aft 58 s)).data.toList) e ∧ Below wn.heap.size wn w' := fun wn h => by
    rw [← partOK_name]
    exact checkPart F fm false _ _ wn (by rw [h.tape]; exact hF) (hT.below h) (by decide) (Nat.le_trans (aft_size 35 _) hra)
  have k5 : ∀ t : ByteArray, ∀ wn, Below w.heap.size w wn → Calls Tryf.prog 21 #[.string ⟨#[117, 115, 101, 114, 32, 37, 113, 58, 32, 37, 115]⟩, .slice (some ⟨wn.heap.size, 0, none⟩) 2 2] (wn.alloc (.cells #[.iface 9 (.string s), .iface 9 (.string t)] 20)) fun e w' => Err e ∧ Below wn.heap.size wn w' := fun t wn h => errorf_user F.told s t wn (by rw [h.tape]; exact hF)
  unfold puOK
  generalize hxty : bef 58 s = ty at *
  generalize hxre : aft 58 s = re at *
  generalize hxid : bef 35 re = id at *
  generalize hxrl : aft 35 re = rl at *
  generalize hxo : hasB 58 s = ok at *
  generalize hxu : hasB 35 re = us at *
  clear hxty hxre hxid hxrl hxo hxu

  cases ok with
  | false =>
    rw [Bool.false_and]
    go_enter Tryf.func17, Tryf.ntmps17
    go_wp2_with (first
      | (go_at_call 21; refine (k5 _ w2 q2.bel).mono ?_; rintro e w5 ⟨⟨a5, rfl⟩, hb5⟩; have q5 := q2.step hb5; have hx5 := q5.box; obtain ⟨ca5, cb5, cc5⟩ := q5.c; obtain ⟨fa5, fb5, fc5⟩ := q5.f)
      | (go_at_call 22; refine (k2 w1).mono ?_; rintro e w2 ⟨rfl, hb2⟩; have q2 := q1.step hb2; have hx2 := q2.box; obtain ⟨ca2, cb2, cc2⟩ := q2.c; obtain ⟨fa2, fb2, fc2⟩ := q2.f)
      | (go_at_call 22; refine (k1 _).mono ?_; rintro e w1 ⟨rfl, hb1⟩; have q1 := q0.step hb1; have hx1 := q1.box; obtain ⟨ca1, cb1, cc1⟩ := q1.c; obtain ⟨fa1, fb1, fc1⟩ := q1.f))
    (try simp only [Exit.inBlock, Exit.then])
    refine bodyPost_ret (v := .tuple #[.agg #[.string ⟨#[]⟩, .string ⟨#[]⟩, .string ⟨#[]⟩], .iface 80 (.pointer (some a5))]) ?_ rfl ⟨⟨_, rfl⟩, ?_⟩
    · rw [results_cell_tmp rfl]
      go_simp
    · exact ((q5.bel.setCell (by simp) _).setCell (by simp) _).setCell (by simp) _
  | true =>
    rw [Bool.true_and]
    generalize hxt : tyOK fm (!us) ty.data.toList id.data.toList = tk at *
    generalize hxn : nameOK fm rl.data.toList = nk at *
    clear hxt hxn
    cases tk with
    | false =>
      rw [Bool.false_and]
      go_enter Tryf.func17, Tryf.ntmps17
      go_wp2_with (first
      | (go_at_call 21; refine (k5 _ w3 q3.bel).mono ?_; rintro e w5 ⟨⟨a5, rfl⟩, hb5⟩; have q5 := q3.step hb5; have hx5 := q5.box; obtain ⟨ca5, cb5, cc5⟩ := q5.c; obtain ⟨fa5, fb5, fc5⟩ := q5.f)
      | (go_at_call 23; refine (k3 w2 q2.bel).mono ?_; rintro e w3 ⟨⟨t3, rfl, ht3⟩, hb3⟩; have q3 := q2.step hb3; have hx3 := q3.box; obtain ⟨ca3, cb3, cc3⟩ := q3.c; obtain ⟨fa3, fb3, fc3⟩ := q3.f)
      | (go_at_call 22; refine (k2 w1).mono ?_; rintro e w2 ⟨rfl, hb2⟩; have q2 := q1.step hb2; have hx2 := q2.box; obtain ⟨ca2, cb2, cc2⟩ := q2.c; obtain ⟨fa2, fb2, fc2⟩ := q2.f)
      | (go_at_call 22; refine (k1 _).mono ?_; rintro e w1 ⟨rfl, hb1⟩; have q1 := q0.step hb1; have hx1 := q1.box; obtain ⟨ca1, cb1, cc1⟩ := q1.c; obtain ⟨fa1, fb1, fc1⟩ := q1.f))
      (try simp only [Exit.inBlock, Exit.then])
      refine bodyPost_ret (v := .tuple #[.agg #[.string ⟨#[]⟩, .string ⟨#[]⟩, .string ⟨#[]⟩], .iface 80 (.pointer (some a5))]) ?_ rfl ⟨⟨_, rfl⟩, ?_⟩
      · rw [results_cell_tmp rfl]
        go_simp
      · exact ((q5.bel.setCell (by simp) _).setCell (by simp) _).setCell (by simp) _
    | true =>
      rw [Bool.true_and]
      cases us with
      | false =>
        rw [Bool.not_false, Bool.true_or]
        go_enter Tryf.func17, Tryf.ntmps17
        go_wp2_with (first
      | (go_at_call 23; refine (k3 w2 q2.bel).mono ?_; rintro e w3 ⟨⟨t3, rfl, ht3⟩, hb3⟩; have q3 := q2.step hb3; have hx3 := q3.box; obtain ⟨ca3, cb3, cc3⟩ := q3.c; obtain ⟨fa3, fb3, fc3⟩ := q3.f)
      | (go_at_call 22; refine (k2 w1).mono ?_; rintro e w2 ⟨rfl, hb2⟩; have q2 := q1.step hb2; have hx2 := q2.box; obtain ⟨ca2, cb2, cc2⟩ := q2.c; obtain ⟨fa2, fb2, fc2⟩ := q2.f)
      | (go_at_call 22; refine (k1 _).mono ?_; rintro e w1 ⟨rfl, hb1⟩; have q1 := q0.step hb1; have hx1 := q1.box; obtain ⟨ca1, cb1, cc1⟩ := q1.c; obtain ⟨fa1, fb1, fc1⟩ := q1.f))
        (try simp only [Exit.inBlock, Exit.then])
        refine bodyPost_ret (v := .tuple #[.agg #[.string ty, .string id, .string rl], .nilIface]) ?_ rfl ⟨rfl, ?_⟩
        · rw [results_cell_tmp rfl]
          go_simp
        · exact ((q3.bel.setCell (by simp) _).setCell (by simp) _).setCell (by simp) _
      | true =>
        rw [Bool.not_true, Bool.false_or]
        cases nk with
        | true =>
          go_enter Tryf.func17, Tryf.ntmps17
          go_wp2_with (first
      | (go_at_call 20; refine (k4 w3 q3.bel).mono ?_; rintro e w4 ⟨⟨t4, rfl, ht4⟩, hb4⟩; have q4 := q3.step hb4; have hx4 := q4.box; obtain ⟨ca4, cb4, cc4⟩ := q4.c; obtain ⟨fa4, fb4, fc4⟩ := q4.f)
      | (go_at_call 23; refine (k3 w2 q2.bel).mono ?_; rintro e w3 ⟨⟨t3, rfl, ht3⟩, hb3⟩; have q3 := q2.step hb3; have hx3 := q3.box; obtain ⟨ca3, cb3, cc3⟩ := q3.c; obtain ⟨fa3, fb3, fc3⟩ := q3.f)
      | (go_at_call 22; refine (k2 w1).mono ?_; rintro e w2 ⟨rfl, hb2⟩; have q2 := q1.step hb2; have hx2 := q2.box; obtain ⟨ca2, cb2, cc2⟩ := q2.c; obtain ⟨fa2, fb2, fc2⟩ := q2.f)
      | (go_at_call 22; refine (k1 _).mono ?_; rintro e w1 ⟨rfl, hb1⟩; have q1 := q0.step hb1; have hx1 := q1.box; obtain ⟨ca1, cb1, cc1⟩ := q1.c; obtain ⟨fa1, fb1, fc1⟩ := q1.f))
          (try simp only [Exit.inBlock, Exit.then])
          refine bodyPost_ret (v := .tuple #[.agg #[.string ty, .string id, .string rl], .nilIface]) ?_ rfl ⟨rfl, ?_⟩
          · rw [results_cell_tmp rfl]
            go_simp
          · exact ((q4.bel.setCell (by simp) _).setCell (by simp) _).setCell (by simp) _
        | false =>
          go_enter Tryf.func17, Tryf.ntmps17
          go_wp2_with (first
      | (go_at_call 21; refine (k5 _ w4 q4.bel).mono ?_; rintro e w5 ⟨⟨a5, rfl⟩, hb5⟩; have q5 := q4.step hb5; have hx5 := q5.box; obtain ⟨ca5, cb5, cc5⟩ := q5.c; obtain ⟨fa5, fb5, fc5⟩ := q5.f)
      | (go_at_call 20; refine (k4 w3 q3.bel).mono ?_; rintro e w4 ⟨⟨t4, rfl, ht4⟩, hb4⟩; have q4 := q3.step hb4; have hx4 := q4.box; obtain ⟨ca4, cb4, cc4⟩ := q4.c; obtain ⟨fa4, fb4, fc4⟩ := q4.f)
      | (go_at_call 23; refine (k3 w2 q2.bel).mono ?_; rintro e w3 ⟨⟨t3, rfl, ht3⟩, hb3⟩; have q3 := q2.step hb3; have hx3 := q3.box; obtain ⟨ca3, cb3, cc3⟩ := q3.c; obtain ⟨fa3, fb3, fc3⟩ := q3.f)
      | (go_at_call 22; refine (k2 w1).mono ?_; rintro e w2 ⟨rfl, hb2⟩; have q2 := q1.step hb2; have hx2 := q2.box; obtain ⟨ca2, cb2, cc2⟩ := q2.c; obtain ⟨fa2, fb2, fc2⟩ := q2.f)
      | (go_at_call 22; refine (k1 _).mono ?_; rintro e w1 ⟨rfl, hb1⟩; have q1 := q0.step hb1; have hx1 := q1.box; obtain ⟨ca1, cb1, cc1⟩ := q1.c; obtain ⟨fa1, fb1, fc1⟩ := q1.f))
          (try simp only [Exit.inBlock, Exit.then])
          refine bodyPost_ret (v := .tuple #[.agg #[.string ⟨#[]⟩, .string ⟨#[]⟩, .string ⟨#[]⟩], .iface 80 (.pointer (some a5))]) ?_ rfl ⟨⟨_, rfl⟩, ?_⟩
          · rw [results_cell_tmp rfl]
            go_simp
          · exact ((q5.bel.setCell (by simp) _).setCell (by simp) _).setCell (by simp) _

end Go.Proofs.Qxb6606413aFmt
