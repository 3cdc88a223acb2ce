/-
  Seat b6606413aF: FnParseUserInvertsString.
-/
import Derived.Test.Qxb6606413aFmtW6
namespace Go.Proofs.Qxb6606413aFmt
open Go.RowKit Go.Lib
open Go.Extern.Stop Go.Stop Go.Extern

/-- The worlds on the law's road: the variable, the tables, the user's block. -/
structure Rd5 (w : World) (ty id rel : ByteArray) (wn : World) : Prop where
  bel : Below w.heap.size w wn
  blk : wn.heap[w.heap.size]? = some (.cells #[.string ty, .string id, .string rel] 24)
  len : w.heap.size + 1 ≤ wn.heap.size

theorem Rd5.start (w : World) (ty id rel : ByteArray) : Rd5 w ty id rel (w.alloc (.cells #[.string ty, .string id, .string rel] 24)) :=
  ⟨(Below.refl _ w).alloc (Nat.le_refl _) _, heap_alloc_new w _, by simp⟩
theorem Rd5.step {w a b : World} {ty id rel : ByteArray} (h : Rd5 w ty id rel a) (k : Below a.heap.size a b) : Rd5 w ty id rel b :=
  ⟨bstep h.bel k, by rw [k.block _ (by have := h.len; omega)]; exact h.blk, Nat.le_trans h.len k.size⟩
theorem Rd5.c {w a : World} {ty id rel : ByteArray} (h : Rd5 w ty id rel a) : a.cell? ⟨w.heap.size, 0, none⟩ = some (.string ty) ∧ a.cell? ⟨w.heap.size, 1, none⟩ = some (.string id) ∧ a.cell? ⟨w.heap.size, 2, none⟩ = some (.string rel) := by
  simp [World.cell?, h.blk]

/-- .. and the block of what was read. -/
structure Rd6 (w : World) (ty id rel : ByteArray) (N : Nat) (cs : Array Value) (wn : World) : Prop where
  r5 : Rd5 w ty id rel wn
  got : wn.heap[N]? = some (.cells cs 24)
  lt : N < wn.heap.size

theorem Rd6.start {w w2 : World} {ty id rel : ByteArray} (h : Rd5 w ty id rel w2) (cs : Array Value) : Rd6 w ty id rel w2.heap.size cs (w2.alloc (.cells cs 24)) :=
  ⟨h.step ((Below.refl _ _).alloc (Nat.le_refl _) _), heap_alloc_new w2 _, by simp⟩
theorem Rd6.step {w a b : World} {ty id rel : ByteArray} {N : Nat} {cs : Array Value} (h : Rd6 w ty id rel N cs a) (k : Below a.heap.size a b) : Rd6 w ty id rel N cs b :=
  ⟨h.r5.step k, by rw [k.block _ h.lt]; exact h.got, Nat.lt_of_lt_of_le h.lt k.size⟩
theorem Rd6.c {w a : World} {ty id rel x y z : ByteArray} {N : Nat} (h : Rd6 w ty id rel N #[.string x, .string y, .string z] a) : a.cell? ⟨N, 0, none⟩ = some (.string x) ∧ a.cell? ⟨N, 1, none⟩ = some (.string y) ∧ a.cell? ⟨N, 2, none⟩ = some (.string z) := by
  simp [World.cell?, h.got]

set_option maxHeartbeats 4000000 in
set_option maxRecDepth 100000 in
theorem law5_00 (F : Interp) (ty id rel : ByteArray) (w : World) (hF : F.told.answers w.tape) (hT : Tabs w) (hv : w.cell? ⟨0, 0, none⟩ = some (.bool false)) (hg : 0 < w.heap.size)
    (h1 : ty.size ≤ 262144) (h2 : id.size ≤ 262144) (h3 : rel.size ≤ 262144) (hp : puOK false (uStr ty id rel) = false) (hR : rel.toList.isEmpty = false) :
    Calls Tryf.prog 5 #[.string ty, .string id, .string rel] w fun e w' => e = .returned (.bool true) ∧ Below w.heap.size w w' := by
  have q0 := Rd5.start w ty id rel
  have k14 := bytes3 ty id rel w (by omega) (by omega) (by omega)
  have k8 := userString ty id rel (w.alloc (.cells #[.string ty, .string id, .string rel] 24)) (by omega) (by omega) (by omega)
  have hsz : (uStr ty id rel).size ≤ 1000000000 := by
    unfold uStr
    split <;> simp [ByteArray.size_append] <;> first | omega | (have e1 : (ByteArray.mk #[58]).size = 1 := rfl; have e2 : (ByteArray.mk #[35]).size = 1 := rfl; omega)
  have k12 : ∀ wn, Rd5 w ty id rel wn → Calls Tryf.prog 12 #[.bool false, .string (uStr ty id rel)] wn fun e w' => Usr (puOK false (uStr ty id rel)) (bef 58 (uStr ty id rel)) (bef 35 (aft 58 (uStr ty id rel))) (aft 35 (aft 58 (uStr ty id rel))) e ∧ Below wn.heap.size wn w' :=
    fun wn h => zzParseUser F false _ wn (by rw [h.bel.tape]; exact hF) (hT.below h.bel) hsz
  have kid : ∀ wn, Below w.heap.size w wn → Calls Tryf.prog 10 #[.string ⟨#[116, 121, 112, 101]⟩, .string id] wn fun e w' => ErrIff (nameOK false id.data.toList) e ∧ Below wn.heap.size wn w' :=
    fun wn h => checkNameT F _ id wn (by rw [h.tape]; exact hF) (hT.below h) (by rw [h.cell hg]; exact hv) (by decide) (by omega)
  have kty : ∀ wn, Below w.heap.size w wn → Calls Tryf.prog 10 #[.string ⟨#[116, 121, 112, 101]⟩, .string ty] wn fun e w' => ErrIff (nameOK false ty.data.toList) e ∧ Below wn.heap.size wn w' :=
    fun wn h => checkNameT F _ ty wn (by rw [h.tape]; exact hF) (hT.below h) (by rw [h.cell hg]; exact hv) (by decide) (by omega)
  have krl : ∀ wn, Below w.heap.size w wn → Calls Tryf.prog 10 #[.string ⟨#[114, 101, 108, 97, 116, 105, 111, 110]⟩, .string rel] wn fun e w' => ErrIff (nameOK false rel.data.toList) e ∧ Below wn.heap.size wn w' :=
    fun wn h => checkNameT F _ rel wn (by rw [h.tape]; exact hF) (hT.below h) (by rw [h.cell hg]; exact hv) (by decide) (by omega)
  have HL := hide (user_law false ty id rel)
  unfold uOK at HL
  clear hsz hv
  generalize hxs : uStr ty id rel = s at *
  generalize hxb : bef 58 s = b1 at *
  generalize hxc : bef 35 (aft 58 s) = b2 at *
  generalize hxd : aft 35 (aft 58 s) = b3 at *
  generalize hxp : puOK false s = ok at *
  generalize hx1 : nameOK false ty.data.toList = n1 at *
  generalize hx2 : nameOK false id.data.toList = n2 at *
  generalize hx3 : nameOK false rel.data.toList = n3 at *
  clear hxs hxb hxc hxd hxp hx1 hx2 hx3
  subst hp
  cases n1 with
  | false =>
    cases n2 with
    | false =>
      cases n3 with
      | false =>
        go_enter Tryf.func5, Tryf.ntmps5
        go_wp2_with (first
          | (go_at_call 10; refine (kty w4 r4.r5.bel).mono ?_; rintro e w5 ⟨⟨a5, rfl⟩, hb5⟩; have r5 := r4.step hb5; obtain ⟨ua, ub, uc⟩ := r5.r5.c; obtain ⟨ga, gb', gc⟩ := r5.c)
          | (go_at_call 10; refine (krl w3 r3.r5.bel).mono ?_; rintro e w4 ⟨⟨a4, rfl⟩, hb4⟩; have r4 := r3.step hb4)
          | (go_at_call 10; refine (kid _ r2.r5.bel).mono ?_; rintro e w3 ⟨⟨a3, rfl⟩, hb3⟩; have r3 := r2.step hb3)
          | (go_at_call 12; refine (k12 w1 q1).mono ?_; rintro e w2 ⟨⟨a2, rfl⟩, hb2⟩; have q2 := q1.step hb2; have r2 := Rd6.start q2 #[.string ⟨#[]⟩, .string ⟨#[]⟩, .string ⟨#[]⟩])
          | (go_at_call 8; refine k8.mono ?_; rintro e w1 ⟨rfl, hb1⟩; have q1 := q0.step hb1)
          | (go_at_call 14; refine k14.mono ?_; rintro e wz ⟨⟨bz, rfl, hbz⟩, rfl⟩))
        all_goals first
          | (go_ret
             exact ⟨rfl, Below.refl _ _⟩)
          | (go_ret
             exact ⟨rfl, r5.r5.bel⟩)
          | (exfalso
             exact absurd HL.out (by simp [*]))
      | true =>
        go_enter Tryf.func5, Tryf.ntmps5
        go_wp2_with (first
          | (go_at_call 10; refine (kty w4 r4.r5.bel).mono ?_; rintro e w5 ⟨⟨a5, rfl⟩, hb5⟩; have r5 := r4.step hb5; obtain ⟨ua, ub, uc⟩ := r5.r5.c; obtain ⟨ga, gb', gc⟩ := r5.c)
          | (go_at_call 10; refine (krl w3 r3.r5.bel).mono ?_; rintro e w4 ⟨he4, hb4⟩; have he4' : e = .returned .nilIface := he4; subst he4'; clear he4; have r4 := r3.step hb4)
          | (go_at_call 10; refine (kid _ r2.r5.bel).mono ?_; rintro e w3 ⟨⟨a3, rfl⟩, hb3⟩; have r3 := r2.step hb3)
          | (go_at_call 12; refine (k12 w1 q1).mono ?_; rintro e w2 ⟨⟨a2, rfl⟩, hb2⟩; have q2 := q1.step hb2; have r2 := Rd6.start q2 #[.string ⟨#[]⟩, .string ⟨#[]⟩, .string ⟨#[]⟩])
          | (go_at_call 8; refine k8.mono ?_; rintro e w1 ⟨rfl, hb1⟩; have q1 := q0.step hb1)
          | (go_at_call 14; refine k14.mono ?_; rintro e wz ⟨⟨bz, rfl, hbz⟩, rfl⟩))
        all_goals first
          | (go_ret
             exact ⟨rfl, Below.refl _ _⟩)
          | (go_ret
             exact ⟨rfl, r5.r5.bel⟩)
          | (exfalso
             exact absurd HL.out (by simp [*]))
    | true =>
      cases n3 with
      | false =>
        go_enter Tryf.func5, Tryf.ntmps5
        go_wp2_with (first
          | (go_at_call 10; refine (kty w4 r4.r5.bel).mono ?_; rintro e w5 ⟨⟨a5, rfl⟩, hb5⟩; have r5 := r4.step hb5; obtain ⟨ua, ub, uc⟩ := r5.r5.c; obtain ⟨ga, gb', gc⟩ := r5.c)
          | (go_at_call 10; refine (krl w3 r3.r5.bel).mono ?_; rintro e w4 ⟨⟨a4, rfl⟩, hb4⟩; have r4 := r3.step hb4)
          | (go_at_call 10; refine (kid _ r2.r5.bel).mono ?_; rintro e w3 ⟨he3, hb3⟩; have he3' : e = .returned .nilIface := he3; subst he3'; clear he3; have r3 := r2.step hb3)
          | (go_at_call 12; refine (k12 w1 q1).mono ?_; rintro e w2 ⟨⟨a2, rfl⟩, hb2⟩; have q2 := q1.step hb2; have r2 := Rd6.start q2 #[.string ⟨#[]⟩, .string ⟨#[]⟩, .string ⟨#[]⟩])
          | (go_at_call 8; refine k8.mono ?_; rintro e w1 ⟨rfl, hb1⟩; have q1 := q0.step hb1)
          | (go_at_call 14; refine k14.mono ?_; rintro e wz ⟨⟨bz, rfl, hbz⟩, rfl⟩))
        all_goals first
          | (go_ret
             exact ⟨rfl, Below.refl _ _⟩)
          | (go_ret
             exact ⟨rfl, r5.r5.bel⟩)
          | (exfalso
             exact absurd HL.out (by simp [*]))
      | true =>
        go_enter Tryf.func5, Tryf.ntmps5
        go_wp2_with (first
          | (go_at_call 10; refine (kty w4 r4.r5.bel).mono ?_; rintro e w5 ⟨⟨a5, rfl⟩, hb5⟩; have r5 := r4.step hb5; obtain ⟨ua, ub, uc⟩ := r5.r5.c; obtain ⟨ga, gb', gc⟩ := r5.c)
          | (go_at_call 10; refine (krl w3 r3.r5.bel).mono ?_; rintro e w4 ⟨he4, hb4⟩; have he4' : e = .returned .nilIface := he4; subst he4'; clear he4; have r4 := r3.step hb4)
          | (go_at_call 10; refine (kid _ r2.r5.bel).mono ?_; rintro e w3 ⟨he3, hb3⟩; have he3' : e = .returned .nilIface := he3; subst he3'; clear he3; have r3 := r2.step hb3)
          | (go_at_call 12; refine (k12 w1 q1).mono ?_; rintro e w2 ⟨⟨a2, rfl⟩, hb2⟩; have q2 := q1.step hb2; have r2 := Rd6.start q2 #[.string ⟨#[]⟩, .string ⟨#[]⟩, .string ⟨#[]⟩])
          | (go_at_call 8; refine k8.mono ?_; rintro e w1 ⟨rfl, hb1⟩; have q1 := q0.step hb1)
          | (go_at_call 14; refine k14.mono ?_; rintro e wz ⟨⟨bz, rfl, hbz⟩, rfl⟩))
        all_goals first
          | (go_ret
             exact ⟨rfl, Below.refl _ _⟩)
          | (go_ret
             exact ⟨rfl, r5.r5.bel⟩)
          | (exfalso
             exact absurd HL.out (by simp [*]))
  | true =>
    cases n2 with
    | false =>
      cases n3 with
      | false =>
        go_enter Tryf.func5, Tryf.ntmps5
        go_wp2_with (first
          | (go_at_call 10; refine (kty w4 r4.r5.bel).mono ?_; rintro e w5 ⟨he5, hb5⟩; have he5' : e = .returned .nilIface := he5; subst he5'; clear he5; have r5 := r4.step hb5; obtain ⟨ua, ub, uc⟩ := r5.r5.c; obtain ⟨ga, gb', gc⟩ := r5.c)
          | (go_at_call 10; refine (krl w3 r3.r5.bel).mono ?_; rintro e w4 ⟨⟨a4, rfl⟩, hb4⟩; have r4 := r3.step hb4)
          | (go_at_call 10; refine (kid _ r2.r5.bel).mono ?_; rintro e w3 ⟨⟨a3, rfl⟩, hb3⟩; have r3 := r2.step hb3)
          | (go_at_call 12; refine (k12 w1 q1).mono ?_; rintro e w2 ⟨⟨a2, rfl⟩, hb2⟩; have q2 := q1.step hb2; have r2 := Rd6.start q2 #[.string ⟨#[]⟩, .string ⟨#[]⟩, .string ⟨#[]⟩])
          | (go_at_call 8; refine k8.mono ?_; rintro e w1 ⟨rfl, hb1⟩; have q1 := q0.step hb1)
          | (go_at_call 14; refine k14.mono ?_; rintro e wz ⟨⟨bz, rfl, hbz⟩, rfl⟩))
        all_goals first
          | (go_ret
             exact ⟨rfl, Below.refl _ _⟩)
          | (go_ret
             exact ⟨rfl, r5.r5.bel⟩)
          | (exfalso
             exact absurd HL.out (by simp [*]))
      | true =>
        go_enter Tryf.func5, Tryf.ntmps5
        go_wp2_with (first
          | (go_at_call 10; refine (kty w4 r4.r5.bel).mono ?_; rintro e w5 ⟨he5, hb5⟩; have he5' : e = .returned .nilIface := he5; subst he5'; clear he5; have r5 := r4.step hb5; obtain ⟨ua, ub, uc⟩ := r5.r5.c; obtain ⟨ga, gb', gc⟩ := r5.c)
          | (go_at_call 10; refine (krl w3 r3.r5.bel).mono ?_; rintro e w4 ⟨he4, hb4⟩; have he4' : e = .returned .nilIface := he4; subst he4'; clear he4; have r4 := r3.step hb4)
          | (go_at_call 10; refine (kid _ r2.r5.bel).mono ?_; rintro e w3 ⟨⟨a3, rfl⟩, hb3⟩; have r3 := r2.step hb3)
          | (go_at_call 12; refine (k12 w1 q1).mono ?_; rintro e w2 ⟨⟨a2, rfl⟩, hb2⟩; have q2 := q1.step hb2; have r2 := Rd6.start q2 #[.string ⟨#[]⟩, .string ⟨#[]⟩, .string ⟨#[]⟩])
          | (go_at_call 8; refine k8.mono ?_; rintro e w1 ⟨rfl, hb1⟩; have q1 := q0.step hb1)
          | (go_at_call 14; refine k14.mono ?_; rintro e wz ⟨⟨bz, rfl, hbz⟩, rfl⟩))
        all_goals first
          | (go_ret
             exact ⟨rfl, Below.refl _ _⟩)
          | (go_ret
             exact ⟨rfl, r5.r5.bel⟩)
          | (exfalso
             exact absurd HL.out (by simp [*]))
    | true =>
      cases n3 with
      | false =>
        go_enter Tryf.func5, Tryf.ntmps5
        go_wp2_with (first
          | (go_at_call 10; refine (kty w4 r4.r5.bel).mono ?_; rintro e w5 ⟨he5, hb5⟩; have he5' : e = .returned .nilIface := he5; subst he5'; clear he5; have r5 := r4.step hb5; obtain ⟨ua, ub, uc⟩ := r5.r5.c; obtain ⟨ga, gb', gc⟩ := r5.c)
          | (go_at_call 10; refine (krl w3 r3.r5.bel).mono ?_; rintro e w4 ⟨⟨a4, rfl⟩, hb4⟩; have r4 := r3.step hb4)
          | (go_at_call 10; refine (kid _ r2.r5.bel).mono ?_; rintro e w3 ⟨he3, hb3⟩; have he3' : e = .returned .nilIface := he3; subst he3'; clear he3; have r3 := r2.step hb3)
          | (go_at_call 12; refine (k12 w1 q1).mono ?_; rintro e w2 ⟨⟨a2, rfl⟩, hb2⟩; have q2 := q1.step hb2; have r2 := Rd6.start q2 #[.string ⟨#[]⟩, .string ⟨#[]⟩, .string ⟨#[]⟩])
          | (go_at_call 8; refine k8.mono ?_; rintro e w1 ⟨rfl, hb1⟩; have q1 := q0.step hb1)
          | (go_at_call 14; refine k14.mono ?_; rintro e wz ⟨⟨bz, rfl, hbz⟩, rfl⟩))
        all_goals first
          | (go_ret
             exact ⟨rfl, Below.refl _ _⟩)
          | (go_ret
             exact ⟨rfl, r5.r5.bel⟩)
          | (exfalso
             exact absurd HL.out (by simp [*]))
      | true =>
        go_enter Tryf.func5, Tryf.ntmps5
        go_wp2_with (first
          | (go_at_call 10; refine (kty w4 r4.r5.bel).mono ?_; rintro e w5 ⟨he5, hb5⟩; have he5' : e = .returned .nilIface := he5; subst he5'; clear he5; have r5 := r4.step hb5; obtain ⟨ua, ub, uc⟩ := r5.r5.c; obtain ⟨ga, gb', gc⟩ := r5.c)
          | (go_at_call 10; refine (krl w3 r3.r5.bel).mono ?_; rintro e w4 ⟨he4, hb4⟩; have he4' : e = .returned .nilIface := he4; subst he4'; clear he4; have r4 := r3.step hb4)
          | (go_at_call 10; refine (kid _ r2.r5.bel).mono ?_; rintro e w3 ⟨he3, hb3⟩; have he3' : e = .returned .nilIface := he3; subst he3'; clear he3; have r3 := r2.step hb3)
          | (go_at_call 12; refine (k12 w1 q1).mono ?_; rintro e w2 ⟨⟨a2, rfl⟩, hb2⟩; have q2 := q1.step hb2; have r2 := Rd6.start q2 #[.string ⟨#[]⟩, .string ⟨#[]⟩, .string ⟨#[]⟩])
          | (go_at_call 8; refine k8.mono ?_; rintro e w1 ⟨rfl, hb1⟩; have q1 := q0.step hb1)
          | (go_at_call 14; refine k14.mono ?_; rintro e wz ⟨⟨bz, rfl, hbz⟩, rfl⟩))
        all_goals first
          | (go_ret
             exact ⟨rfl, Below.refl _ _⟩)
          | (go_ret
             exact ⟨rfl, r5.r5.bel⟩)
          | (exfalso
             exact absurd HL.out (by simp [*]))

set_option maxHeartbeats 4000000 in
set_option maxRecDepth 100000 in
theorem law5_01 (F : Interp) (ty id rel : ByteArray) (w : World) (hF : F.told.answers w.tape) (hT : Tabs w) (hv : w.cell? ⟨0, 0, none⟩ = some (.bool false)) (hg : 0 < w.heap.size)
    (h1 : ty.size ≤ 262144) (h2 : id.size ≤ 262144) (h3 : rel.size ≤ 262144) (hp : puOK false (uStr ty id rel) = false) (hR : rel.toList.isEmpty = true) :
    Calls Tryf.prog 5 #[.string ty, .string id, .string rel] w fun e w' => e = .returned (.bool true) ∧ Below w.heap.size w w' := by
  have q0 := Rd5.start w ty id rel
  have k14 := bytes3 ty id rel w (by omega) (by omega) (by omega)
  have k8 := userString ty id rel (w.alloc (.cells #[.string ty, .string id, .string rel] 24)) (by omega) (by omega) (by omega)
  have hsz : (uStr ty id rel).size ≤ 1000000000 := by
    unfold uStr
    split <;> simp [ByteArray.size_append] <;> first | omega | (have e1 : (ByteArray.mk #[58]).size = 1 := rfl; have e2 : (ByteArray.mk #[35]).size = 1 := rfl; omega)
  have k12 : ∀ wn, Rd5 w ty id rel wn → Calls Tryf.prog 12 #[.bool false, .string (uStr ty id rel)] wn fun e w' => Usr (puOK false (uStr ty id rel)) (bef 58 (uStr ty id rel)) (bef 35 (aft 58 (uStr ty id rel))) (aft 35 (aft 58 (uStr ty id rel))) e ∧ Below wn.heap.size wn w' :=
    fun wn h => zzParseUser F false _ wn (by rw [h.bel.tape]; exact hF) (hT.below h.bel) hsz
  have kid : ∀ wn, Below w.heap.size w wn → Calls Tryf.prog 10 #[.string ⟨#[116, 121, 112, 101]⟩, .string id] wn fun e w' => ErrIff (nameOK false id.data.toList) e ∧ Below wn.heap.size wn w' :=
    fun wn h => checkNameT F _ id wn (by rw [h.tape]; exact hF) (hT.below h) (by rw [h.cell hg]; exact hv) (by decide) (by omega)
  have kty : ∀ wn, Below w.heap.size w wn → Calls Tryf.prog 10 #[.string ⟨#[116, 121, 112, 101]⟩, .string ty] wn fun e w' => ErrIff (nameOK false ty.data.toList) e ∧ Below wn.heap.size wn w' :=
    fun wn h => checkNameT F _ ty wn (by rw [h.tape]; exact hF) (hT.below h) (by rw [h.cell hg]; exact hv) (by decide) (by omega)
  have krl : ∀ wn, Below w.heap.size w wn → Calls Tryf.prog 10 #[.string ⟨#[114, 101, 108, 97, 116, 105, 111, 110]⟩, .string rel] wn fun e w' => ErrIff (nameOK false rel.data.toList) e ∧ Below wn.heap.size wn w' :=
    fun wn h => checkNameT F _ rel wn (by rw [h.tape]; exact hF) (hT.below h) (by rw [h.cell hg]; exact hv) (by decide) (by omega)
  have HL := hide (user_law false ty id rel)
  unfold uOK at HL
  clear hsz hv
  generalize hxs : uStr ty id rel = s at *
  generalize hxb : bef 58 s = b1 at *
  generalize hxc : bef 35 (aft 58 s) = b2 at *
  generalize hxd : aft 35 (aft 58 s) = b3 at *
  generalize hxp : puOK false s = ok at *
  generalize hx1 : nameOK false ty.data.toList = n1 at *
  generalize hx2 : nameOK false id.data.toList = n2 at *
  generalize hx3 : nameOK false rel.data.toList = n3 at *
  clear hxs hxb hxc hxd hxp hx1 hx2 hx3
  subst hp
  clear krl
  cases n1 with
  | false =>
    cases n2 with
    | false =>
      go_enter Tryf.func5, Tryf.ntmps5
      go_wp2_with (first
        | (go_at_call 10; refine (kty w3 r3.r5.bel).mono ?_; rintro e w5 ⟨⟨a5, rfl⟩, hb5⟩; have r5 := r3.step hb5; obtain ⟨ua, ub, uc⟩ := r5.r5.c; obtain ⟨ga, gb', gc⟩ := r5.c)
        | (go_at_call 10; refine (kid _ r2.r5.bel).mono ?_; rintro e w3 ⟨⟨a3, rfl⟩, hb3⟩; have r3 := r2.step hb3)
        | (go_at_call 12; refine (k12 w1 q1).mono ?_; rintro e w2 ⟨⟨a2, rfl⟩, hb2⟩; have q2 := q1.step hb2; have r2 := Rd6.start q2 #[.string ⟨#[]⟩, .string ⟨#[]⟩, .string ⟨#[]⟩])
        | (go_at_call 8; refine k8.mono ?_; rintro e w1 ⟨rfl, hb1⟩; have q1 := q0.step hb1)
        | (go_at_call 14; refine k14.mono ?_; rintro e wz ⟨⟨bz, rfl, hbz⟩, rfl⟩))
      all_goals first
        | (go_ret
           exact ⟨rfl, Below.refl _ _⟩)
        | (go_ret
           exact ⟨rfl, r5.r5.bel⟩)
        | (exfalso
           exact absurd HL.out (by simp [*]))
    | true =>
      go_enter Tryf.func5, Tryf.ntmps5
      go_wp2_with (first
        | (go_at_call 10; refine (kty w3 r3.r5.bel).mono ?_; rintro e w5 ⟨⟨a5, rfl⟩, hb5⟩; have r5 := r3.step hb5; obtain ⟨ua, ub, uc⟩ := r5.r5.c; obtain ⟨ga, gb', gc⟩ := r5.c)
        | (go_at_call 10; refine (kid _ r2.r5.bel).mono ?_; rintro e w3 ⟨he3, hb3⟩; have he3' : e = .returned .nilIface := he3; subst he3'; clear he3; have r3 := r2.step hb3)
        | (go_at_call 12; refine (k12 w1 q1).mono ?_; rintro e w2 ⟨⟨a2, rfl⟩, hb2⟩; have q2 := q1.step hb2; have r2 := Rd6.start q2 #[.string ⟨#[]⟩, .string ⟨#[]⟩, .string ⟨#[]⟩])
        | (go_at_call 8; refine k8.mono ?_; rintro e w1 ⟨rfl, hb1⟩; have q1 := q0.step hb1)
        | (go_at_call 14; refine k14.mono ?_; rintro e wz ⟨⟨bz, rfl, hbz⟩, rfl⟩))
      all_goals first
        | (go_ret
           exact ⟨rfl, Below.refl _ _⟩)
        | (go_ret
           exact ⟨rfl, r5.r5.bel⟩)
        | (exfalso
           exact absurd HL.out (by simp [*]))
  | true =>
    cases n2 with
    | false =>
      go_enter Tryf.func5, Tryf.ntmps5
      go_wp2_with (first
        | (go_at_call 10; refine (kty w3 r3.r5.bel).mono ?_; rintro e w5 ⟨he5, hb5⟩; have he5' : e = .returned .nilIface := he5; subst he5'; clear he5; have r5 := r3.step hb5; obtain ⟨ua, ub, uc⟩ := r5.r5.c; obtain ⟨ga, gb', gc⟩ := r5.c)
        | (go_at_call 10; refine (kid _ r2.r5.bel).mono ?_; rintro e w3 ⟨⟨a3, rfl⟩, hb3⟩; have r3 := r2.step hb3)
        | (go_at_call 12; refine (k12 w1 q1).mono ?_; rintro e w2 ⟨⟨a2, rfl⟩, hb2⟩; have q2 := q1.step hb2; have r2 := Rd6.start q2 #[.string ⟨#[]⟩, .string ⟨#[]⟩, .string ⟨#[]⟩])
        | (go_at_call 8; refine k8.mono ?_; rintro e w1 ⟨rfl, hb1⟩; have q1 := q0.step hb1)
        | (go_at_call 14; refine k14.mono ?_; rintro e wz ⟨⟨bz, rfl, hbz⟩, rfl⟩))
      all_goals first
        | (go_ret
           exact ⟨rfl, Below.refl _ _⟩)
        | (go_ret
           exact ⟨rfl, r5.r5.bel⟩)
        | (exfalso
           exact absurd HL.out (by simp [*]))
    | true =>
      go_enter Tryf.func5, Tryf.ntmps5
      go_wp2_with (first
        | (go_at_call 10; refine (kty w3 r3.r5.bel).mono ?_; rintro e w5 ⟨he5, hb5⟩; have he5' : e = .returned .nilIface := he5; subst he5'; clear he5; have r5 := r3.step hb5; obtain ⟨ua, ub, uc⟩ := r5.r5.c; obtain ⟨ga, gb', gc⟩ := r5.c)
        | (go_at_call 10; refine (kid _ r2.r5.bel).mono ?_; rintro e w3 ⟨he3, hb3⟩; have he3' : e = .returned .nilIface := he3; subst he3'; clear he3; have r3 := r2.step hb3)
        | (go_at_call 12; refine (k12 w1 q1).mono ?_; rintro e w2 ⟨⟨a2, rfl⟩, hb2⟩; have q2 := q1.step hb2; have r2 := Rd6.start q2 #[.string ⟨#[]⟩, .string ⟨#[]⟩, .string ⟨#[]⟩])
        | (go_at_call 8; refine k8.mono ?_; rintro e w1 ⟨rfl, hb1⟩; have q1 := q0.step hb1)
        | (go_at_call 14; refine k14.mono ?_; rintro e wz ⟨⟨bz, rfl, hbz⟩, rfl⟩))
      all_goals first
        | (go_ret
           exact ⟨rfl, Below.refl _ _⟩)
        | (go_ret
           exact ⟨rfl, r5.r5.bel⟩)
        | (exfalso
           exact absurd HL.out (by simp [*]))

set_option maxHeartbeats 4000000 in
set_option maxRecDepth 100000 in
theorem law5_10 (F : Interp) (ty id rel : ByteArray) (w : World) (hF : F.told.answers w.tape) (hT : Tabs w) (hv : w.cell? ⟨0, 0, none⟩ = some (.bool false)) (hg : 0 < w.heap.size)
    (h1 : ty.size ≤ 262144) (h2 : id.size ≤ 262144) (h3 : rel.size ≤ 262144) (hp : puOK false (uStr ty id rel) = true) (hR : rel.toList.isEmpty = false) :
    Calls Tryf.prog 5 #[.string ty, .string id, .string rel] w fun e w' => e = .returned (.bool true) ∧ Below w.heap.size w w' := by
  have q0 := Rd5.start w ty id rel
  have k14 := bytes3 ty id rel w (by omega) (by omega) (by omega)
  have k8 := userString ty id rel (w.alloc (.cells #[.string ty, .string id, .string rel] 24)) (by omega) (by omega) (by omega)
  have hsz : (uStr ty id rel).size ≤ 1000000000 := by
    unfold uStr
    split <;> simp [ByteArray.size_append] <;> first | omega | (have e1 : (ByteArray.mk #[58]).size = 1 := rfl; have e2 : (ByteArray.mk #[35]).size = 1 := rfl; omega)
  have k12 : ∀ wn, Rd5 w ty id rel wn → Calls Tryf.prog 12 #[.bool false, .string (uStr ty id rel)] wn fun e w' => Usr (puOK false (uStr ty id rel)) (bef 58 (uStr ty id rel)) (bef 35 (aft 58 (uStr ty id rel))) (aft 35 (aft 58 (uStr ty id rel))) e ∧ Below wn.heap.size wn w' :=
    fun wn h => zzParseUser F false _ wn (by rw [h.bel.tape]; exact hF) (hT.below h.bel) hsz
  have kid : ∀ wn, Below w.heap.size w wn → Calls Tryf.prog 10 #[.string ⟨#[116, 121, 112, 101]⟩, .string id] wn fun e w' => ErrIff (nameOK false id.data.toList) e ∧ Below wn.heap.size wn w' :=
    fun wn h => checkNameT F _ id wn (by rw [h.tape]; exact hF) (hT.below h) (by rw [h.cell hg]; exact hv) (by decide) (by omega)
  have kty : ∀ wn, Below w.heap.size w wn → Calls Tryf.prog 10 #[.string ⟨#[116, 121, 112, 101]⟩, .string ty] wn fun e w' => ErrIff (nameOK false ty.data.toList) e ∧ Below wn.heap.size wn w' :=
    fun wn h => checkNameT F _ ty wn (by rw [h.tape]; exact hF) (hT.below h) (by rw [h.cell hg]; exact hv) (by decide) (by omega)
  have krl : ∀ wn, Below w.heap.size w wn → Calls Tryf.prog 10 #[.string ⟨#[114, 101, 108, 97, 116, 105, 111, 110]⟩, .string rel] wn fun e w' => ErrIff (nameOK false rel.data.toList) e ∧ Below wn.heap.size wn w' :=
    fun wn h => checkNameT F _ rel wn (by rw [h.tape]; exact hF) (hT.below h) (by rw [h.cell hg]; exact hv) (by decide) (by omega)
  have HL := hide (user_law false ty id rel)
  unfold uOK at HL
  clear hsz hv
  generalize hxs : uStr ty id rel = s at *
  generalize hxb : bef 58 s = b1 at *
  generalize hxc : bef 35 (aft 58 s) = b2 at *
  generalize hxd : aft 35 (aft 58 s) = b3 at *
  generalize hxp : puOK false s = ok at *
  generalize hx1 : nameOK false ty.data.toList = n1 at *
  generalize hx2 : nameOK false id.data.toList = n2 at *
  generalize hx3 : nameOK false rel.data.toList = n3 at *
  clear hxs hxb hxc hxd hxp hx1 hx2 hx3
  subst hp
  cases n1 with
  | false =>
    cases n2 with
    | false =>
      cases n3 with
      | false =>
        go_enter Tryf.func5, Tryf.ntmps5
        go_wp2_with (first
          | (go_at_call 10; refine (kty w4 r4.r5.bel).mono ?_; rintro e w5 ⟨⟨a5, rfl⟩, hb5⟩; have r5 := r4.step hb5; obtain ⟨ua, ub, uc⟩ := r5.r5.c; obtain ⟨ga, gb', gc⟩ := r5.c)
          | (go_at_call 10; refine (krl w3 r3.r5.bel).mono ?_; rintro e w4 ⟨⟨a4, rfl⟩, hb4⟩; have r4 := r3.step hb4)
          | (go_at_call 10; refine (kid _ r2.r5.bel).mono ?_; rintro e w3 ⟨⟨a3, rfl⟩, hb3⟩; have r3 := r2.step hb3)
          | (go_at_call 12; refine (k12 w1 q1).mono ?_; rintro e w2 ⟨he2, hb2⟩; have he2' : e = .returned (.tuple #[.agg #[.string b1, .string b2, .string b3], .nilIface]) := he2; subst he2'; clear he2; have q2 := q1.step hb2; have r2 := Rd6.start q2 #[.string b1, .string b2, .string b3])
          | (go_at_call 8; refine k8.mono ?_; rintro e w1 ⟨rfl, hb1⟩; have q1 := q0.step hb1)
          | (go_at_call 14; refine k14.mono ?_; rintro e wz ⟨⟨bz, rfl, hbz⟩, rfl⟩))
        all_goals first
          | (go_ret
             exact ⟨rfl, Below.refl _ _⟩)
          | (go_ret
             exact ⟨rfl, r5.r5.bel⟩)
          | (exfalso
             exact absurd HL.out (by simp [*]))
      | true =>
        go_enter Tryf.func5, Tryf.ntmps5
        go_wp2_with (first
          | (go_at_call 10; refine (kty w4 r4.r5.bel).mono ?_; rintro e w5 ⟨⟨a5, rfl⟩, hb5⟩; have r5 := r4.step hb5; obtain ⟨ua, ub, uc⟩ := r5.r5.c; obtain ⟨ga, gb', gc⟩ := r5.c)
          | (go_at_call 10; refine (krl w3 r3.r5.bel).mono ?_; rintro e w4 ⟨he4, hb4⟩; have he4' : e = .returned .nilIface := he4; subst he4'; clear he4; have r4 := r3.step hb4)
          | (go_at_call 10; refine (kid _ r2.r5.bel).mono ?_; rintro e w3 ⟨⟨a3, rfl⟩, hb3⟩; have r3 := r2.step hb3)
          | (go_at_call 12; refine (k12 w1 q1).mono ?_; rintro e w2 ⟨he2, hb2⟩; have he2' : e = .returned (.tuple #[.agg #[.string b1, .string b2, .string b3], .nilIface]) := he2; subst he2'; clear he2; have q2 := q1.step hb2; have r2 := Rd6.start q2 #[.string b1, .string b2, .string b3])
          | (go_at_call 8; refine k8.mono ?_; rintro e w1 ⟨rfl, hb1⟩; have q1 := q0.step hb1)
          | (go_at_call 14; refine k14.mono ?_; rintro e wz ⟨⟨bz, rfl, hbz⟩, rfl⟩))
        all_goals first
          | (go_ret
             exact ⟨rfl, Below.refl _ _⟩)
          | (go_ret
             exact ⟨rfl, r5.r5.bel⟩)
          | (exfalso
             exact absurd HL.out (by simp [*]))
    | true =>
      cases n3 with
      | false =>
        go_enter Tryf.func5, Tryf.ntmps5
        go_wp2_with (first
          | (go_at_call 10; refine (kty w4 r4.r5.bel).mono ?_; rintro e w5 ⟨⟨a5, rfl⟩, hb5⟩; have r5 := r4.step hb5; obtain ⟨ua, ub, uc⟩ := r5.r5.c; obtain ⟨ga, gb', gc⟩ := r5.c)
          | (go_at_call 10; refine (krl w3 r3.r5.bel).mono ?_; rintro e w4 ⟨⟨a4, rfl⟩, hb4⟩; have r4 := r3.step hb4)
          | (go_at_call 10; refine (kid _ r2.r5.bel).mono ?_; rintro e w3 ⟨he3, hb3⟩; have he3' : e = .returned .nilIface := he3; subst he3'; clear he3; have r3 := r2.step hb3)
          | (go_at_call 12; refine (k12 w1 q1).mono ?_; rintro e w2 ⟨he2, hb2⟩; have he2' : e = .returned (.tuple #[.agg #[.string b1, .string b2, .string b3], .nilIface]) := he2; subst he2'; clear he2; have q2 := q1.step hb2; have r2 := Rd6.start q2 #[.string b1, .string b2, .string b3])
          | (go_at_call 8; refine k8.mono ?_; rintro e w1 ⟨rfl, hb1⟩; have q1 := q0.step hb1)
          | (go_at_call 14; refine k14.mono ?_; rintro e wz ⟨⟨bz, rfl, hbz⟩, rfl⟩))
        all_goals first
          | (go_ret
             exact ⟨rfl, Below.refl _ _⟩)
          | (go_ret
             exact ⟨rfl, r5.r5.bel⟩)
          | (exfalso
             exact absurd HL.out (by simp [*]))
      | true =>
        go_enter Tryf.func5, Tryf.ntmps5
        go_wp2_with (first
          | (go_at_call 10; refine (kty w4 r4.r5.bel).mono ?_; rintro e w5 ⟨⟨a5, rfl⟩, hb5⟩; have r5 := r4.step hb5; obtain ⟨ua, ub, uc⟩ := r5.r5.c; obtain ⟨ga, gb', gc⟩ := r5.c)
          | (go_at_call 10; refine (krl w3 r3.r5.bel).mono ?_; rintro e w4 ⟨he4, hb4⟩; have he4' : e = .returned .nilIface := he4; subst he4'; clear he4; have r4 := r3.step hb4)
          | (go_at_call 10; refine (kid _ r2.r5.bel).mono ?_; rintro e w3 ⟨he3, hb3⟩; have he3' : e = .returned .nilIface := he3; subst he3'; clear he3; have r3 := r2.step hb3)
          | (go_at_call 12; refine (k12 w1 q1).mono ?_; rintro e w2 ⟨he2, hb2⟩; have he2' : e = .returned (.tuple #[.agg #[.string b1, .string b2, .string b3], .nilIface]) := he2; subst he2'; clear he2; have q2 := q1.step hb2; have r2 := Rd6.start q2 #[.string b1, .string b2, .string b3])
          | (go_at_call 8; refine k8.mono ?_; rintro e w1 ⟨rfl, hb1⟩; have q1 := q0.step hb1)
          | (go_at_call 14; refine k14.mono ?_; rintro e wz ⟨⟨bz, rfl, hbz⟩, rfl⟩))
        all_goals first
          | (go_ret
             exact ⟨rfl, Below.refl _ _⟩)
          | (go_ret
             exact ⟨rfl, r5.r5.bel⟩)
          | (exfalso
             exact absurd HL.out (by simp [*]))
  | true =>
    cases n2 with
    | false =>
      cases n3 with
      | false =>
        go_enter Tryf.func5, Tryf.ntmps5
        go_wp2_with (first
          | (go_at_call 10; refine (kty w4 r4.r5.bel).mono ?_; rintro e w5 ⟨he5, hb5⟩; have he5' : e = .returned .nilIface := he5; subst he5'; clear he5; have r5 := r4.step hb5; obtain ⟨ua, ub, uc⟩ := r5.r5.c; obtain ⟨ga, gb', gc⟩ := r5.c)
          | (go_at_call 10; refine (krl w3 r3.r5.bel).mono ?_; rintro e w4 ⟨⟨a4, rfl⟩, hb4⟩; have r4 := r3.step hb4)
          | (go_at_call 10; refine (kid _ r2.r5.bel).mono ?_; rintro e w3 ⟨⟨a3, rfl⟩, hb3⟩; have r3 := r2.step hb3)
          | (go_at_call 12; refine (k12 w1 q1).mono ?_; rintro e w2 ⟨he2, hb2⟩; have he2' : e = .returned (.tuple #[.agg #[.string b1, .string b2, .string b3], .nilIface]) := he2; subst he2'; clear he2; have q2 := q1.step hb2; have r2 := Rd6.start q2 #[.string b1, .string b2, .string b3])
          | (go_at_call 8; refine k8.mono ?_; rintro e w1 ⟨rfl, hb1⟩; have q1 := q0.step hb1)
          | (go_at_call 14; refine k14.mono ?_; rintro e wz ⟨⟨bz, rfl, hbz⟩, rfl⟩))
        all_goals first
          | (go_ret
             exact ⟨rfl, Below.refl _ _⟩)
          | (go_ret
             exact ⟨rfl, r5.r5.bel⟩)
          | (exfalso
             exact absurd HL.out (by simp [*]))
      | true =>
        go_enter Tryf.func5, Tryf.ntmps5
        go_wp2_with (first
          | (go_at_call 10; refine (kty w4 r4.r5.bel).mono ?_; rintro e w5 ⟨he5, hb5⟩; have he5' : e = .returned .nilIface := he5; subst he5'; clear he5; have r5 := r4.step hb5; obtain ⟨ua, ub, uc⟩ := r5.r5.c; obtain ⟨ga, gb', gc⟩ := r5.c)
          | (go_at_call 10; refine (krl w3 r3.r5.bel).mono ?_; rintro e w4 ⟨he4, hb4⟩; have he4' : e = .returned .nilIface := he4; subst he4'; clear he4; have r4 := r3.step hb4)
          | (go_at_call 10; refine (kid _ r2.r5.bel).mono ?_; rintro e w3 ⟨⟨a3, rfl⟩, hb3⟩; have r3 := r2.step hb3)
          | (go_at_call 12; refine (k12 w1 q1).mono ?_; rintro e w2 ⟨he2, hb2⟩; have he2' : e = .returned (.tuple #[.agg #[.string b1, .string b2, .string b3], .nilIface]) := he2; subst he2'; clear he2; have q2 := q1.step hb2; have r2 := Rd6.start q2 #[.string b1, .string b2, .string b3])
          | (go_at_call 8; refine k8.mono ?_; rintro e w1 ⟨rfl, hb1⟩; have q1 := q0.step hb1)
          | (go_at_call 14; refine k14.mono ?_; rintro e wz ⟨⟨bz, rfl, hbz⟩, rfl⟩))
        all_goals first
          | (go_ret
             exact ⟨rfl, Below.refl _ _⟩)
          | (go_ret
             exact ⟨rfl, r5.r5.bel⟩)
          | (exfalso
             exact absurd HL.out (by simp [*]))
    | true =>
      cases n3 with
      | false =>
        go_enter Tryf.func5, Tryf.ntmps5
        go_wp2_with (first
          | (go_at_call 10; refine (kty w4 r4.r5.bel).mono ?_; rintro e w5 ⟨he5, hb5⟩; have he5' : e = .returned .nilIface := he5; subst he5'; clear he5; have r5 := r4.step hb5; obtain ⟨ua, ub, uc⟩ := r5.r5.c; obtain ⟨ga, gb', gc⟩ := r5.c)
          | (go_at_call 10; refine (krl w3 r3.r5.bel).mono ?_; rintro e w4 ⟨⟨a4, rfl⟩, hb4⟩; have r4 := r3.step hb4)
          | (go_at_call 10; refine (kid _ r2.r5.bel).mono ?_; rintro e w3 ⟨he3, hb3⟩; have he3' : e = .returned .nilIface := he3; subst he3'; clear he3; have r3 := r2.step hb3)
          | (go_at_call 12; refine (k12 w1 q1).mono ?_; rintro e w2 ⟨he2, hb2⟩; have he2' : e = .returned (.tuple #[.agg #[.string b1, .string b2, .string b3], .nilIface]) := he2; subst he2'; clear he2; have q2 := q1.step hb2; have r2 := Rd6.start q2 #[.string b1, .string b2, .string b3])
          | (go_at_call 8; refine k8.mono ?_; rintro e w1 ⟨rfl, hb1⟩; have q1 := q0.step hb1)
          | (go_at_call 14; refine k14.mono ?_; rintro e wz ⟨⟨bz, rfl, hbz⟩, rfl⟩))
        all_goals first
          | (go_ret
             exact ⟨rfl, Below.refl _ _⟩)
          | (go_ret
             exact ⟨rfl, r5.r5.bel⟩)
          | (exfalso
             exact absurd HL.out (by simp [*]))
      | true =>
        go_enter Tryf.func5, Tryf.ntmps5
        go_wp2_with (first
          | (go_at_call 10; refine (kty w4 r4.r5.bel).mono ?_; rintro e w5 ⟨he5, hb5⟩; have he5' : e = .returned .nilIface := he5; subst he5'; clear he5; have r5 := r4.step hb5; obtain ⟨ua, ub, uc⟩ := r5.r5.c; obtain ⟨ga, gb', gc⟩ := r5.c)
          | (go_at_call 10; refine (krl w3 r3.r5.bel).mono ?_; rintro e w4 ⟨he4, hb4⟩; have he4' : e = .returned .nilIface := he4; subst he4'; clear he4; have r4 := r3.step hb4)
          | (go_at_call 10; refine (kid _ r2.r5.bel).mono ?_; rintro e w3 ⟨he3, hb3⟩; have he3' : e = .returned .nilIface := he3; subst he3'; clear he3; have r3 := r2.step hb3)
          | (go_at_call 12; refine (k12 w1 q1).mono ?_; rintro e w2 ⟨he2, hb2⟩; have he2' : e = .returned (.tuple #[.agg #[.string b1, .string b2, .string b3], .nilIface]) := he2; subst he2'; clear he2; have q2 := q1.step hb2; have r2 := Rd6.start q2 #[.string b1, .string b2, .string b3])
          | (go_at_call 8; refine k8.mono ?_; rintro e w1 ⟨rfl, hb1⟩; have q1 := q0.step hb1)
          | (go_at_call 14; refine k14.mono ?_; rintro e wz ⟨⟨bz, rfl, hbz⟩, rfl⟩))
        all_goals first
          | (go_ret
             exact ⟨rfl, Below.refl _ _⟩)
          | (go_ret
             exact ⟨rfl, r5.r5.bel⟩)
          | (exfalso
             exact absurd HL.out (by simp [*]))

set_option maxHeartbeats 4000000 in
set_option maxRecDepth 100000 in
theorem law5_11 (F : Interp) (ty id rel : ByteArray) (w : World) (hF : F.told.answers w.tape) (hT : Tabs w) (hv : w.cell? ⟨0, 0, none⟩ = some (.bool false)) (hg : 0 < w.heap.size)
    (h1 : ty.size ≤ 262144) (h2 : id.size ≤ 262144) (h3 : rel.size ≤ 262144) (hp : puOK false (uStr ty id rel) = true) (hR : rel.toList.isEmpty = true) :
    Calls Tryf.prog 5 #[.string ty, .string id, .string rel] w fun e w' => e = .returned (.bool true) ∧ Below w.heap.size w w' := by
  have q0 := Rd5.start w ty id rel
  have k14 := bytes3 ty id rel w (by omega) (by omega) (by omega)
  have k8 := userString ty id rel (w.alloc (.cells #[.string ty, .string id, .string rel] 24)) (by omega) (by omega) (by omega)
  have hsz : (uStr ty id rel).size ≤ 1000000000 := by
    unfold uStr
    split <;> simp [ByteArray.size_append] <;> first | omega | (have e1 : (ByteArray.mk #[58]).size = 1 := rfl; have e2 : (ByteArray.mk #[35]).size = 1 := rfl; omega)
  have k12 : ∀ wn, Rd5 w ty id rel wn → Calls Tryf.prog 12 #[.bool false, .string (uStr ty id rel)] wn fun e w' => Usr (puOK false (uStr ty id rel)) (bef 58 (uStr ty id rel)) (bef 35 (aft 58 (uStr ty id rel))) (aft 35 (aft 58 (uStr ty id rel))) e ∧ Below wn.heap.size wn w' :=
    fun wn h => zzParseUser F false _ wn (by rw [h.bel.tape]; exact hF) (hT.below h.bel) hsz
  have kid : ∀ wn, Below w.heap.size w wn → Calls Tryf.prog 10 #[.string ⟨#[116, 121, 112, 101]⟩, .string id] wn fun e w' => ErrIff (nameOK false id.data.toList) e ∧ Below wn.heap.size wn w' :=
    fun wn h => checkNameT F _ id wn (by rw [h.tape]; exact hF) (hT.below h) (by rw [h.cell hg]; exact hv) (by decide) (by omega)
  have kty : ∀ wn, Below w.heap.size w wn → Calls Tryf.prog 10 #[.string ⟨#[116, 121, 112, 101]⟩, .string ty] wn fun e w' => ErrIff (nameOK false ty.data.toList) e ∧ Below wn.heap.size wn w' :=
    fun wn h => checkNameT F _ ty wn (by rw [h.tape]; exact hF) (hT.below h) (by rw [h.cell hg]; exact hv) (by decide) (by omega)
  have krl : ∀ wn, Below w.heap.size w wn → Calls Tryf.prog 10 #[.string ⟨#[114, 101, 108, 97, 116, 105, 111, 110]⟩, .string rel] wn fun e w' => ErrIff (nameOK false rel.data.toList) e ∧ Below wn.heap.size wn w' :=
    fun wn h => checkNameT F _ rel wn (by rw [h.tape]; exact hF) (hT.below h) (by rw [h.cell hg]; exact hv) (by decide) (by omega)
  have HL := hide (user_law false ty id rel)
  unfold uOK at HL
  clear hsz hv
  generalize hxs : uStr ty id rel = s at *
  generalize hxb : bef 58 s = b1 at *
  generalize hxc : bef 35 (aft 58 s) = b2 at *
  generalize hxd : aft 35 (aft 58 s) = b3 at *
  generalize hxp : puOK false s = ok at *
  generalize hx1 : nameOK false ty.data.toList = n1 at *
  generalize hx2 : nameOK false id.data.toList = n2 at *
  generalize hx3 : nameOK false rel.data.toList = n3 at *
  clear hxs hxb hxc hxd hxp hx1 hx2 hx3
  subst hp
  clear krl
  cases n1 with
  | false =>
    cases n2 with
    | false =>
      go_enter Tryf.func5, Tryf.ntmps5
      go_wp2_with (first
        | (go_at_call 10; refine (kty w3 r3.r5.bel).mono ?_; rintro e w5 ⟨⟨a5, rfl⟩, hb5⟩; have r5 := r3.step hb5; obtain ⟨ua, ub, uc⟩ := r5.r5.c; obtain ⟨ga, gb', gc⟩ := r5.c)
        | (go_at_call 10; refine (kid _ r2.r5.bel).mono ?_; rintro e w3 ⟨⟨a3, rfl⟩, hb3⟩; have r3 := r2.step hb3)
        | (go_at_call 12; refine (k12 w1 q1).mono ?_; rintro e w2 ⟨he2, hb2⟩; have he2' : e = .returned (.tuple #[.agg #[.string b1, .string b2, .string b3], .nilIface]) := he2; subst he2'; clear he2; have q2 := q1.step hb2; have r2 := Rd6.start q2 #[.string b1, .string b2, .string b3])
        | (go_at_call 8; refine k8.mono ?_; rintro e w1 ⟨rfl, hb1⟩; have q1 := q0.step hb1)
        | (go_at_call 14; refine k14.mono ?_; rintro e wz ⟨⟨bz, rfl, hbz⟩, rfl⟩))
      all_goals first
        | (go_ret
           exact ⟨rfl, Below.refl _ _⟩)
        | (go_ret
           exact ⟨rfl, r5.r5.bel⟩)
        | (exfalso
           exact absurd HL.out (by simp [*]))
    | true =>
      go_enter Tryf.func5, Tryf.ntmps5
      go_wp2_with (first
        | (go_at_call 10; refine (kty w3 r3.r5.bel).mono ?_; rintro e w5 ⟨⟨a5, rfl⟩, hb5⟩; have r5 := r3.step hb5; obtain ⟨ua, ub, uc⟩ := r5.r5.c; obtain ⟨ga, gb', gc⟩ := r5.c)
        | (go_at_call 10; refine (kid _ r2.r5.bel).mono ?_; rintro e w3 ⟨he3, hb3⟩; have he3' : e = .returned .nilIface := he3; subst he3'; clear he3; have r3 := r2.step hb3)
        | (go_at_call 12; refine (k12 w1 q1).mono ?_; rintro e w2 ⟨he2, hb2⟩; have he2' : e = .returned (.tuple #[.agg #[.string b1, .string b2, .string b3], .nilIface]) := he2; subst he2'; clear he2; have q2 := q1.step hb2; have r2 := Rd6.start q2 #[.string b1, .string b2, .string b3])
        | (go_at_call 8; refine k8.mono ?_; rintro e w1 ⟨rfl, hb1⟩; have q1 := q0.step hb1)
        | (go_at_call 14; refine k14.mono ?_; rintro e wz ⟨⟨bz, rfl, hbz⟩, rfl⟩))
      all_goals first
        | (go_ret
           exact ⟨rfl, Below.refl _ _⟩)
        | (go_ret
           exact ⟨rfl, r5.r5.bel⟩)
        | (exfalso
           exact absurd HL.out (by simp [*]))
  | true =>
    cases n2 with
    | false =>
      go_enter Tryf.func5, Tryf.ntmps5
      go_wp2_with (first
        | (go_at_call 10; refine (kty w3 r3.r5.bel).mono ?_; rintro e w5 ⟨he5, hb5⟩; have he5' : e = .returned .nilIface := he5; subst he5'; clear he5; have r5 := r3.step hb5; obtain ⟨ua, ub, uc⟩ := r5.r5.c; obtain ⟨ga, gb', gc⟩ := r5.c)
        | (go_at_call 10; refine (kid _ r2.r5.bel).mono ?_; rintro e w3 ⟨⟨a3, rfl⟩, hb3⟩; have r3 := r2.step hb3)
        | (go_at_call 12; refine (k12 w1 q1).mono ?_; rintro e w2 ⟨he2, hb2⟩; have he2' : e = .returned (.tuple #[.agg #[.string b1, .string b2, .string b3], .nilIface]) := he2; subst he2'; clear he2; have q2 := q1.step hb2; have r2 := Rd6.start q2 #[.string b1, .string b2, .string b3])
        | (go_at_call 8; refine k8.mono ?_; rintro e w1 ⟨rfl, hb1⟩; have q1 := q0.step hb1)
        | (go_at_call 14; refine k14.mono ?_; rintro e wz ⟨⟨bz, rfl, hbz⟩, rfl⟩))
      all_goals first
        | (go_ret
           exact ⟨rfl, Below.refl _ _⟩)
        | (go_ret
           exact ⟨rfl, r5.r5.bel⟩)
        | (exfalso
           exact absurd HL.out (by simp [*]))
    | true =>
      go_enter Tryf.func5, Tryf.ntmps5
      go_wp2_with (first
        | (go_at_call 10; refine (kty w3 r3.r5.bel).mono ?_; rintro e w5 ⟨he5, hb5⟩; have he5' : e = .returned .nilIface := he5; subst he5'; clear he5; have r5 := r3.step hb5; obtain ⟨ua, ub, uc⟩ := r5.r5.c; obtain ⟨ga, gb', gc⟩ := r5.c)
        | (go_at_call 10; refine (kid _ r2.r5.bel).mono ?_; rintro e w3 ⟨he3, hb3⟩; have he3' : e = .returned .nilIface := he3; subst he3'; clear he3; have r3 := r2.step hb3)
        | (go_at_call 12; refine (k12 w1 q1).mono ?_; rintro e w2 ⟨he2, hb2⟩; have he2' : e = .returned (.tuple #[.agg #[.string b1, .string b2, .string b3], .nilIface]) := he2; subst he2'; clear he2; have q2 := q1.step hb2; have r2 := Rd6.start q2 #[.string b1, .string b2, .string b3])
        | (go_at_call 8; refine k8.mono ?_; rintro e w1 ⟨rfl, hb1⟩; have q1 := q0.step hb1)
        | (go_at_call 14; refine k14.mono ?_; rintro e wz ⟨⟨bz, rfl, hbz⟩, rfl⟩))
      all_goals first
        | (go_ret
           exact ⟨rfl, Below.refl _ _⟩)
        | (go_ret
           exact ⟨rfl, r5.r5.bel⟩)
        | (exfalso
           exact absurd HL.out (by simp [*]))

theorem law5_small (F : Interp) (ty id rel : ByteArray) (w : World) (hF : F.told.answers w.tape) (hT : Tabs w) (hv : w.cell? ⟨0, 0, none⟩ = some (.bool false)) (hg : 0 < w.heap.size)
    (h1 : ty.size ≤ 262144) (h2 : id.size ≤ 262144) (h3 : rel.size ≤ 262144) :
    Calls Tryf.prog 5 #[.string ty, .string id, .string rel] w fun e w' => e = .returned (.bool true) ∧ Below w.heap.size w w' := by
  cases hp : puOK false (uStr ty id rel) with
  | false =>
    cases hR : rel.toList.isEmpty with
    | false => exact law5_00 F ty id rel w hF hT hv hg h1 h2 h3 hp hR
    | true => exact law5_01 F ty id rel w hF hT hv hg h1 h2 h3 hp hR
  | true =>
    cases hR : rel.toList.isEmpty with
    | false => exact law5_10 F ty id rel w hF hT hv hg h1 h2 h3 hp hR
    | true => exact law5_11 F ty id rel w hF hT hv hg h1 h2 h3 hp hR

set_option maxHeartbeats 4000000 in
set_option maxRecDepth 100000 in
theorem law5_big (ty id rel : ByteArray) (w : World) (h1 : ty.size ≤ 140737488355328) (h2 : id.size ≤ 140737488355328) (h3 : rel.size ≤ 140737488355328) (hb : 262144 < ty.size ∨ 262144 < id.size ∨ 262144 < rel.size) :
    Calls Tryf.prog 5 #[.string ty, .string id, .string rel] w fun e w' => e = .returned (.bool true) ∧ Below w.heap.size w w' := by
  have k14 := bytes3 ty id rel w h1 h2 h3
  rcases hb with hb | hb | hb
  · go_enter Tryf.func5, Tryf.ntmps5
    go_wp2_with (go_at_call 14; refine k14.mono ?_; rintro e wz ⟨⟨bz, rfl, hbz⟩, rfl⟩)
    all_goals
      go_ret
      exact ⟨rfl, Below.refl _ _⟩
  · by_cases hc : 262144 < ty.size
    all_goals
      go_enter Tryf.func5, Tryf.ntmps5
      go_wp2_with (go_at_call 14; refine k14.mono ?_; rintro e wz ⟨⟨bz, rfl, hbz⟩, rfl⟩)
      all_goals
        go_ret
        exact ⟨rfl, Below.refl _ _⟩
  · by_cases hc : 262144 < ty.size
    · go_enter Tryf.func5, Tryf.ntmps5
      go_wp2_with (go_at_call 14; refine k14.mono ?_; rintro e wz ⟨⟨bz, rfl, hbz⟩, rfl⟩)
      all_goals
        go_ret
        exact ⟨rfl, Below.refl _ _⟩
    · by_cases hd : 262144 < id.size
      all_goals
        go_enter Tryf.func5, Tryf.ntmps5
        go_wp2_with (go_at_call 14; refine k14.mono ?_; rintro e wz ⟨⟨bz, rfl, hbz⟩, rfl⟩)
        all_goals
          go_ret
          exact ⟨rfl, Below.refl _ _⟩

theorem law5 (F : Interp) (ty id rel : ByteArray) (w : World) (hF : F.told.answers w.tape) (hT : Tabs w) (hv : w.cell? ⟨0, 0, none⟩ = some (.bool false)) (hg : 0 < w.heap.size)
    (h1 : ty.size ≤ 140737488355328) (h2 : id.size ≤ 140737488355328) (h3 : rel.size ≤ 140737488355328) :
    Calls Tryf.prog 5 #[.string ty, .string id, .string rel] w fun e w' => e = .returned (.bool true) ∧ Below w.heap.size w w' := by
  by_cases c : 262144 < ty.size ∨ 262144 < id.size ∨ 262144 < rel.size
  · exact law5_big ty id rel w h1 h2 h3 c
  · exact law5_small F ty id rel w hF hT hv hg (by omega) (by omega) (by omega)

end Go.Proofs.Qxb6606413aFmt
