/-
  Seat b6606413aF: FnParseInvertsStrings.
-/
import Derived.Test.Qxb6606413aFmtW9
import Derived.Deep.DeepCutAuto
import Derived.Deep.RegionHeld3
namespace Go.Proofs.Qxb6606413aFmt
open Go.RowKit Go.Lib
open Go.Extern.Stop Go.Stop Go.Extern

/-- No error where b is true, an error else: as a value. -/
def errV (b : Bool) (a : Addr) : Value := match b with
  | true => .nilIface
  | false => .iface 80 (.pointer (some a))

@[go_sem] theorem run_eql_errV {P : Program} (w : World) (t : TypeId) (h : P.isIface t = true) (b : Bool) (a : Addr) : (binOp .eql t (errV b a) .nilIface).run P w = .ok (.bool b) w := by
  cases b with
  | true => exact run_eql_nil_nil_at w t h
  | false => exact run_eql_iface_nil w t h 80 _

@[go_sem] theorem run_eqGuard_errV (w : World) (o1 : Operand) (v : Value) (b : Bool) (a : Addr) : (eqGuard .eql 30 o1 (.const v) (errV b a) .nilIface).run Tryf.prog w = .ok () w := by
  cases b with
  | true => simp [eqGuard, errV]
  | false => simp [eqGuard, errV]

theorem errV_of {b : Bool} {e : Ending} (h : ErrIff b e) : ∃ a, e = .returned (errV b a) := by
  cases b with
  | true => exact ⟨⟨0, 0, none⟩, h⟩
  | false =>
    obtain ⟨a, h⟩ := h
    exact ⟨a, h⟩

/-- The law of objects. -/
theorem obj_law (fm : Bool) (ot oi : ByteArray) :
    (poOK fm (ot ++ ⟨#[58]⟩ ++ oi) && ((bef 58 (ot ++ ⟨#[58]⟩ ++ oi)).toList == ot.toList && (aft 58 (ot ++ ⟨#[58]⟩ ++ oi)).toList == oi.toList)) = (nameOK fm ot.data.toList && nameOK fm oi.data.toList) := by
  have hs : (ot ++ ⟨#[58]⟩ ++ oi : ByteArray).data.toList = ot.data.toList ++ 58 :: oi.data.toList := by simp
  generalize (ot ++ ⟨#[58]⟩ ++ oi : ByteArray) = s at hs
  cases h1 : nameOK fm ot.data.toList with
  | true =>
    have hc := nameOK_colon h1
    unfold poOK tyOK
    rw [bef_at 58 s ot oi hs hc, aft_at 58 s ot oi hs hc, hasB_at 58 s ot oi hs, partOK_name, partOK_name, h1]
    simp
  | false =>
    by_cases he : bef 58 s = ot
    · unfold poOK tyOK
      rw [he, partOK_name, h1]
      simp
    · have : ((bef 58 s).toList == ot.toList) = false := by
        simp only [beq_eq_false_iff_ne]
        intro e
        exact he (bytes_ext (by rw [← toList_data, ← toList_data, e]))
      rw [this]
      simp

/-- **The law of tuples.** -/
theorem tuple_law (ut ui ur rel ot oi : ByteArray) :
    (pOK false (uStr ut ui ur) rel (ot ++ ⟨#[58]⟩ ++ oi) && ((bef 58 (uStr ut ui ur)).toList == ut.toList && ((bef 35 (aft 58 (uStr ut ui ur))).toList == ui.toList && ((aft 35 (aft 58 (uStr ut ui ur))).toList == ur.toList && ((bef 58 (ot ++ ⟨#[58]⟩ ++ oi)).toList == ot.toList && (aft 58 (ot ++ ⟨#[58]⟩ ++ oi)).toList == oi.toList))))) =
      (uOK false ut ui ur && (nameOK false rel.data.toList && (nameOK false ot.data.toList && nameOK false oi.data.toList))) := by
  rw [← user_law, ← obj_law]
  unfold pOK
  generalize puOK false (uStr ut ui ur) = a
  generalize nameOK false rel.data.toList = b
  generalize poOK false (ot ++ ⟨#[58]⟩ ++ oi) = c
  generalize ((bef 58 (uStr ut ui ur)).toList == ut.toList) = d
  generalize ((bef 35 (aft 58 (uStr ut ui ur))).toList == ui.toList) = e
  generalize ((aft 35 (aft 58 (uStr ut ui ur))).toList == ur.toList) = f
  generalize ((bef 58 (ot ++ ⟨#[58]⟩ ++ oi)).toList == ot.toList) = g
  generalize ((aft 58 (ot ++ ⟨#[58]⟩ ++ oi)).toList == oi.toList) = h
  cases a <;> cases b <;> cases c <;> cases d <;> cases e <;> cases f <;> cases g <;> cases h <;> rfl

set_option maxHeartbeats 1600000 in
set_option maxRecDepth 100000 in
theorem bytes6 (a b c d e f : ByteArray) (w : World) (h1 : a.size ≤ 140737488355328) (h2 : b.size ≤ 140737488355328) (h3 : c.size ≤ 140737488355328) (h4 : d.size ≤ 140737488355328) (h5 : e.size ≤ 140737488355328) (h6 : f.size ≤ 140737488355328) :
    Calls Tryf.prog 6 #[.string a, .string b, .string c, .string d, .string e, .string f] w fun e w' => Bnd True e ∧ w' = w := by
  go_enter Tryf.func6, Tryf.ntmps6
  go_wp2
  all_goals
    go_ret
    exact ⟨⟨_, rfl, fun _ => trivial⟩, rfl⟩

/-- The worlds on the law's road. -/
structure R3 (w : World) (cs : Array Value) (wn : World) : Prop where
  bel : Below w.heap.size w wn
  tb : Has w.heap.size cs 28 wn
theorem Has.frozen {N : Nat} {cs : Array Value} {t : TypeId} {a : World} (h : Has N cs t a) (i : Nat) : a.frozen? ⟨N, i, none⟩ = false := by
  simp [World.frozen?, h.blk]
theorem Has.c6 {N : Nat} {x0 x1 x2 x3 x4 x5 : Value} {t : TypeId} {a : World} (h : Has N #[x0, x1, x2, x3, x4, x5] t a) : (a.cell? ⟨N, 0, none⟩ = some x0 ∧ a.cell? ⟨N, 1, none⟩ = some x1 ∧ a.cell? ⟨N, 2, none⟩ = some x2 ∧ a.cell? ⟨N, 3, none⟩ = some x3 ∧ a.cell? ⟨N, 4, none⟩ = some x4 ∧ a.cell? ⟨N, 5, none⟩ = some x5) ∧ a.frozen? ⟨N, 0, none⟩ = false ∧ a.frozen? ⟨N, 1, none⟩ = false ∧ a.frozen? ⟨N, 2, none⟩ = false ∧ a.frozen? ⟨N, 3, none⟩ = false ∧ a.frozen? ⟨N, 4, none⟩ = false ∧ a.frozen? ⟨N, 5, none⟩ = false := by
  simp [World.cell?, World.frozen?, h.blk]
theorem R3.start (w : World) (cs : Array Value) : R3 w cs (w.alloc (.cells cs 28)) := ⟨below_alloc w _, Has.new w cs 28⟩
theorem R3.step {w a b : World} {cs : Array Value} (h : R3 w cs a) (k : Below a.heap.size a b) : R3 w cs b := ⟨bstep h.bel k, h.tb.step k⟩
theorem set_has {N : Nat} {cs : Array Value} {t : TypeId} {a : World} (h : Has N cs t a) (i : Nat) (v : Value) : Has N (cs.setIfInBounds i v) t (a.setCell ⟨N, i, none⟩ v) := by
  refine ⟨?_, by have := h.lt; simp [World.setCell]; exact this⟩
  simp only [World.setCell, Array.getElem?_modify, if_true, h.blk, Option.map_some]
  rfl
theorem Has.set6 {N : Nat} {x0 x1 x2 x3 x4 x5 : Value} {t : TypeId} {a : World} (h : Has N #[x0, x1, x2, x3, x4, x5] t a) (v0 v1 v2 v3 v4 v5 : Value) :
    Has N #[v0, v1, v2, v3, v4, v5] t ((((((a.setCell ⟨N, 0, none⟩ v0).setCell ⟨N, 1, none⟩ v1).setCell ⟨N, 2, none⟩ v2).setCell ⟨N, 3, none⟩ v3).setCell ⟨N, 4, none⟩ v4).setCell ⟨N, 5, none⟩ v5) :=
  set_has (set_has (set_has (set_has (set_has (set_has h 0 v0) 1 v1) 2 v2) 3 v3) 4 v4) 5 v5
theorem R3.set {w a : World} {cs : Array Value} (h : R3 w cs a) {N : Nat} (hN : w.heap.size < N) (i : Nat) (v : Value) : R3 w cs (a.setCell ⟨N, i, none⟩ v) := by
  refine ⟨h.bel.setCell (by simp; omega) _, ⟨?_, by have := h.tb.lt; simp [World.setCell]; exact this⟩⟩
  rw [Below.heap_setCell _ _ _ _ (by simp; omega)]
  exact h.tb.blk
theorem R3.set6 {w a : World} {cs : Array Value} (h : R3 w cs a) {N : Nat} (hN : w.heap.size < N) (v0 v1 v2 v3 v4 v5 : Value) :
    R3 w cs ((((((a.setCell ⟨N, 0, none⟩ v0).setCell ⟨N, 1, none⟩ v1).setCell ⟨N, 2, none⟩ v2).setCell ⟨N, 3, none⟩ v3).setCell ⟨N, 4, none⟩ v4).setCell ⟨N, 5, none⟩ v5) :=
  (((((h.set hN 0 v0).set hN 1 v1).set hN 2 v2).set hN 3 v3).set hN 4 v4).set hN 5 v5
theorem R3.drew {w a : World} {cs : Array Value} (h : R3 w cs a) : R3 w cs a.drew := h.step ((Below.refl _ a).drew)

set_option maxHeartbeats 16000000 in
set_option maxRecDepth 100000 in
theorem law3_1 (F : Interp) (ut ui ur rel ot oi : ByteArray) (w : World) (hF : F.told.answers w.tape) (hT : Tabs w) (hv : w.cell? ⟨0, 0, none⟩ = some (.bool false)) (hg : 0 < w.heap.size)
    (h1 : ut.size ≤ 131072) (h2 : ui.size ≤ 131072) (h3 : ur.size ≤ 131072) (h4 : rel.size ≤ 131072) (h5 : ot.size ≤ 131072) (h6 : oi.size ≤ 131072) (hp : pOK false (uStr ut ui ur) rel (ot ++ ⟨#[58]⟩ ++ oi) = true) :
    Calls Tryf.prog 3 #[.string ut, .string ui, .string ur, .string rel, .string ot, .string oi] w fun e w' => e = .returned (.bool true) ∧ Below w.heap.size w w' := by
  have q0 := R3.start w #[.string ut, .string ui, .string ur, .string rel, .string ot, .string oi]
  have k6 := bytes6 ut ui ur rel ot oi w (by omega) (by omega) (by omega) (by omega) (by omega) (by omega)
  have k8 : ∀ wn, Calls Tryf.prog 8 #[.agg #[.string ut, .string ui, .string ur]] wn fun e w' => e = .returned (.string (uStr ut ui ur)) ∧ Below wn.heap.size wn w' := fun wn => userString ut ui ur wn (by omega) (by omega) (by omega)
  have k9 : ∀ wn, Calls Tryf.prog 9 #[.agg #[.string ot, .string oi]] wn fun e w' => e = .returned (.string (ot ++ ⟨#[58]⟩ ++ oi)) ∧ Below wn.heap.size wn w' := fun wn => objString ot oi wn (by omega) (by omega)
  have hz1 : (uStr ut ui ur).size ≤ 1000000000 := by
    unfold uStr
    split <;> simp [ByteArray.size_append] <;> first | omega | (have e1 : (ByteArray.mk #[58]).size = 1 := rfl; have e2 : (ByteArray.mk #[35]).size = 1 := rfl; omega)
  have hz2 : (ot ++ ⟨#[58]⟩ ++ oi : ByteArray).size ≤ 1000000000 := by
    simp [ByteArray.size_append]
    have e1 : (ByteArray.mk #[58]).size = 1 := rfl
    omega
  have k7 : ∀ wn, Below w.heap.size w wn → Calls Tryf.prog 7 #[.bool false, .string (uStr ut ui ur), .string rel, .string (ot ++ ⟨#[58]⟩ ++ oi)] wn fun e w' => Tup (pOK false (uStr ut ui ur) rel (ot ++ ⟨#[58]⟩ ++ oi)) (bef 58 (uStr ut ui ur)) (bef 35 (aft 58 (uStr ut ui ur))) (aft 35 (aft 58 (uStr ut ui ur))) rel (bef 58 (ot ++ ⟨#[58]⟩ ++ oi)) (aft 58 (ot ++ ⟨#[58]⟩ ++ oi)) e ∧ Below wn.heap.size wn w' :=
    fun wn h => zzParse F false _ rel _ wn (by rw [h.tape]; exact hF) (hT.below h) hz1 (by omega) hz2
  have kn : ∀ (p s : ByteArray), p.size ≤ 1000 → s.size ≤ 131072 → ∀ wn, Below w.heap.size w wn → Calls Tryf.prog 10 #[.string p, .string s] wn fun e w' => ErrIff (nameOK false s.data.toList) e ∧ Below wn.heap.size wn w' :=
    fun p s hp' hs' wn h => checkNameT F p s wn (by rw [h.tape]; exact hF) (hT.below h) (by rw [h.cell hg]; exact hv) (by omega) (by omega)
  have kui := kn ⟨#[116, 121, 112, 101]⟩ ui (by decide) h2
  have kut := kn ⟨#[116, 121, 112, 101]⟩ ut (by decide) h1
  have kot := kn ⟨#[116, 121, 112, 101]⟩ ot (by decide) h5
  have koi := kn ⟨#[116, 121, 112, 101]⟩ oi (by decide) h6
  have kur := kn ⟨#[114, 101, 108, 97, 116, 105, 111, 110]⟩ ur (by decide) h3
  have krl := kn ⟨#[114, 101, 108, 97, 116, 105, 111, 110]⟩ rel (by decide) h4
  have HL := hide (tuple_law ut ui ur rel ot oi)
  unfold uOK at HL
  rw [hp] at HL k7
  clear hz1 hz2 hv hp kn hF hT
  generalize bef 58 (uStr ut ui ur) = b1 at *
  generalize bef 35 (aft 58 (uStr ut ui ur)) = b2 at *
  generalize aft 35 (aft 58 (uStr ut ui ur)) = b3 at *
  generalize bef 58 (ot ++ ⟨#[58]⟩ ++ oi) = b4 at *
  generalize aft 58 (ot ++ ⟨#[58]⟩ ++ oi) = b5 at *
  generalize uStr ut ui ur = S1 at *
  generalize (ot ++ ⟨#[58]⟩ ++ oi : ByteArray) = S2 at *
  generalize nameOK false ut.data.toList = n1 at *
  generalize nameOK false ui.data.toList = n2 at *
  generalize nameOK false ur.data.toList = n3 at *
  generalize nameOK false rel.data.toList = n4 at *
  generalize nameOK false ot.data.toList = n5 at *
  generalize nameOK false oi.data.toList = n6 at *
  go_enter Tryf.func3, Tryf.ntmps3
  go_upto_region 6 with (go_at_call 6; refine k6.mono ?_; rintro e wz ⟨⟨bz, rfl, hbz⟩, hwz⟩; rw [hwz]; clear hwz wz)
  · go_ret
    exact ⟨rfl, Below.refl _ _⟩
  have q0d := q0.drew
  have HE0 : Hid ((w.alloc (.cells #[.string ut, .string ui, .string ur, .string rel, .string ot, .string oi] 28)).drew.heap.size = w.heap.size + 1) := hide (by show (w.alloc (.cells #[.string ut, .string ui, .string ur, .string rel, .string ot, .string oi] 28)).heap.size = _; simp)
  go_cut [14, 15] (fun t14 t15 wx => ∃ (N : Nat) (a : Addr), t14 = .pointer (some ⟨N, 0, none⟩) ∧ t15 = errV true a ∧ R3 w #[.string ut, .string ui, .string ur, .string rel, .string ot, .string oi] wx ∧ Has N #[.string b1, .string b2, .string b3, .string rel, .string b4, .string b5] 28 wx)
  case first =>
    go_region_held3 (fun w' => w'.cell? ⟨w.heap.size, 0, none⟩ = some (.string ut) ∧ w'.cell? ⟨w.heap.size, 1, none⟩ = some (.string ui) ∧ w'.cell? ⟨w.heap.size, 2, none⟩ = some (.string ur) ∧ w'.cell? ⟨w.heap.size, 4, none⟩ = some (.string ot) ∧ w'.cell? ⟨w.heap.size, 5, none⟩ = some (.string oi)) (go_keep) ((first
      | (go_at_call 8; refine (k8 _).mono ?_; rintro e w8 ⟨rfl, hb8⟩; have q8 : R3 w #[.string ut, .string ui, .string ur, .string rel, .string ot, .string oi] w8 := (by first | exact q9.step hb8 | exact (q9.step (below_alloc _ _)).step hb8 | exact q0d.step hb8 | exact (q0d.step (below_alloc _ _)).step hb8); obtain ⟨⟨x8a, x8b, x8c, x8d, x8e, x8f⟩, _⟩ := q8.tb.c6; have n8 := Nat.ne_of_lt q8.tb.lt; have m8 := n8.symm; (first | (have g8 : Has w9.heap.size #[.string ⟨#[]⟩, .string ⟨#[]⟩, .string ⟨#[]⟩, .string ⟨#[]⟩, .string ⟨#[]⟩, .string ⟨#[]⟩] 28 w8 := (Has.new w9 _ _).step hb8; (obtain ⟨⟨y8a, y8b, y8c, y8d, y8e, y8f⟩, z8a, z8b, z8c, z8d, z8e, z8f⟩ := (g8).c6)) | (have g8 : Has w8.heap.size #[.string ⟨#[]⟩, .string ⟨#[]⟩, .string ⟨#[]⟩, .string ⟨#[]⟩, .string ⟨#[]⟩, .string ⟨#[]⟩] 28 w8 := (Has.new w8 _ _).step hb8; (obtain ⟨⟨y8a, y8b, y8c, y8d, y8e, y8f⟩, z8a, z8b, z8c, z8d, z8e, z8f⟩ := (g8).c6)) | (have g8 : Has (w.heap.size + 1) #[.string ⟨#[]⟩, .string ⟨#[]⟩, .string ⟨#[]⟩, .string ⟨#[]⟩, .string ⟨#[]⟩, .string ⟨#[]⟩] 28 w8 := (by have h := (Has.new (w.alloc (.cells #[.string ut, .string ui, .string ur, .string rel, .string ot, .string oi] 28)).drew _ _).step hb8; rw [HE0.out] at h; exact h); (obtain ⟨⟨y8a, y8b, y8c, y8d, y8e, y8f⟩, z8a, z8b, z8c, z8d, z8e, z8f⟩ := (g8).c6)) | skip))
      | (go_at_call 9; refine (k9 _).mono ?_; rintro e w9 ⟨rfl, hb9⟩; have q9 : R3 w #[.string ut, .string ui, .string ur, .string rel, .string ot, .string oi] w9 := (by first | exact q8.step hb9 | exact (q8.step (below_alloc _ _)).step hb9 | exact q0d.step hb9 | exact (q0d.step (below_alloc _ _)).step hb9); obtain ⟨⟨x9a, x9b, x9c, x9d, x9e, x9f⟩, _⟩ := q9.tb.c6; have n9 := Nat.ne_of_lt q9.tb.lt; have m9 := n9.symm; (first | (have g9 : Has w9.heap.size #[.string ⟨#[]⟩, .string ⟨#[]⟩, .string ⟨#[]⟩, .string ⟨#[]⟩, .string ⟨#[]⟩, .string ⟨#[]⟩] 28 w9 := (Has.new w9 _ _).step hb9; (obtain ⟨⟨y9a, y9b, y9c, y9d, y9e, y9f⟩, z9a, z9b, z9c, z9d, z9e, z9f⟩ := (g9).c6)) | (have g9 : Has w8.heap.size #[.string ⟨#[]⟩, .string ⟨#[]⟩, .string ⟨#[]⟩, .string ⟨#[]⟩, .string ⟨#[]⟩, .string ⟨#[]⟩] 28 w9 := (Has.new w8 _ _).step hb9; (obtain ⟨⟨y9a, y9b, y9c, y9d, y9e, y9f⟩, z9a, z9b, z9c, z9d, z9e, z9f⟩ := (g9).c6)) | (have g9 : Has (w.heap.size + 1) #[.string ⟨#[]⟩, .string ⟨#[]⟩, .string ⟨#[]⟩, .string ⟨#[]⟩, .string ⟨#[]⟩, .string ⟨#[]⟩] 28 w9 := (by have h := (Has.new (w.alloc (.cells #[.string ut, .string ui, .string ur, .string rel, .string ot, .string oi] 28)).drew _ _).step hb9; rw [HE0.out] at h; exact h); (obtain ⟨⟨y9a, y9b, y9c, y9d, y9e, y9f⟩, z9a, z9b, z9c, z9d, z9e, z9f⟩ := (g9).c6)) | (have g9 := g8.step hb9; (obtain ⟨⟨y9a, y9b, y9c, y9d, y9e, y9f⟩, z9a, z9b, z9c, z9d, z9e, z9f⟩ := (g9).c6)) | skip))
      | (go_at_call 7; refine (k7 _ (by first | exact q9.bel | exact (q9.step (below_alloc _ _)).bel | exact q8.bel | exact (q8.step (below_alloc _ _)).bel)).mono ?_; rintro e w7 ⟨he7, hb7⟩; have he7' : e = .returned (.tuple #[.agg #[.string b1, .string b2, .string b3, .string rel, .string b4, .string b5], .nilIface]) := he7; subst he7'; clear he7; have q7 : R3 w #[.string ut, .string ui, .string ur, .string rel, .string ot, .string oi] w7 := (by first | exact q9.step hb7 | exact (q9.step (below_alloc _ _)).step hb7 | exact q8.step hb7 | exact (q8.step (below_alloc _ _)).step hb7); obtain ⟨⟨x7a, x7b, x7c, x7d, x7e, x7f⟩, _⟩ := q7.tb.c6; (first | (have g7 : Has w9.heap.size #[.string ⟨#[]⟩, .string ⟨#[]⟩, .string ⟨#[]⟩, .string ⟨#[]⟩, .string ⟨#[]⟩, .string ⟨#[]⟩] 28 w7 := (Has.new w9 _ _).step hb7; (obtain ⟨⟨y7a, y7b, y7c, y7d, y7e, y7f⟩, z7a, z7b, z7c, z7d, z7e, z7f⟩ := (g7).c6)) | (have g7 : Has w8.heap.size #[.string ⟨#[]⟩, .string ⟨#[]⟩, .string ⟨#[]⟩, .string ⟨#[]⟩, .string ⟨#[]⟩, .string ⟨#[]⟩] 28 w7 := (Has.new w8 _ _).step hb7; (obtain ⟨⟨y7a, y7b, y7c, y7d, y7e, y7f⟩, z7a, z7b, z7c, z7d, z7e, z7f⟩ := (g7).c6)) | (have g7 : Has (w.heap.size + 1) #[.string ⟨#[]⟩, .string ⟨#[]⟩, .string ⟨#[]⟩, .string ⟨#[]⟩, .string ⟨#[]⟩, .string ⟨#[]⟩] 28 w7 := (by have h := (Has.new (w.alloc (.cells #[.string ut, .string ui, .string ur, .string rel, .string ot, .string oi] 28)).drew _ _).step hb7; rw [HE0.out] at h; exact h); (obtain ⟨⟨y7a, y7b, y7c, y7d, y7e, y7f⟩, z7a, z7b, z7c, z7d, z7e, z7f⟩ := (g7).c6)) | (have g7 := g9.step hb7; (obtain ⟨⟨y7a, y7b, y7c, y7d, y7e, y7f⟩, z7a, z7b, z7c, z7d, z7e, z7f⟩ := (g7).c6)) | (have g7 := g8.step hb7; (obtain ⟨⟨y7a, y7b, y7c, y7d, y7e, y7f⟩, z7a, z7b, z7c, z7d, z7e, z7f⟩ := (g7).c6)) | skip))))
    all_goals
      go_wp2_with fail
      go_meet
      first
        | (have hg7 : Has w9.heap.size #[.string b1, .string b2, .string b3, .string rel, .string b4, .string b5] 28 _ := g7.set6 (.string b1) (.string b2) (.string b3) (.string rel) (.string b4) (.string b5)
           refine ⟨w9.heap.size, ⟨0, 0, none⟩, rfl, rfl, ?_, hg7⟩
           exact q7.set6 q9.tb.lt (.string b1) (.string b2) (.string b3) (.string rel) (.string b4) (.string b5))
        | (have hg7 : Has w8.heap.size #[.string b1, .string b2, .string b3, .string rel, .string b4, .string b5] 28 _ := g7.set6 (.string b1) (.string b2) (.string b3) (.string rel) (.string b4) (.string b5)
           refine ⟨w8.heap.size, ⟨0, 0, none⟩, rfl, rfl, ?_, hg7⟩
           exact q7.set6 q8.tb.lt (.string b1) (.string b2) (.string b3) (.string rel) (.string b4) (.string b5))
        | (have hg7 : Has (w.heap.size + 1) #[.string b1, .string b2, .string b3, .string rel, .string b4, .string b5] 28 _ := g7.set6 (.string b1) (.string b2) (.string b3) (.string rel) (.string b4) (.string b5)
           refine ⟨w.heap.size + 1, ⟨0, 0, none⟩, rfl, rfl, ?_, hg7⟩
           exact q7.set6 (Nat.lt_succ_self _) (.string b1) (.string b2) (.string b3) (.string rel) (.string b4) (.string b5))
        | (have hg7 := Has.new w7 #[.string b1, .string b2, .string b3, .string rel, .string b4, .string b5] 28
           refine ⟨w7.heap.size, ⟨0, 0, none⟩, rfl, rfl, ?_, hg7⟩
           exact q7.step (below_alloc _ _))
  case rest =>
    obtain ⟨N, aE, rfl, rfl, pc, gp⟩ := hcut
    clear k6 k7 k8 k9 q0 q0d
    have KUT := hide kut
    have KUR := hide kur
    have KRL := hide krl
    have KOT := hide kot
    have KOI := hide koi
    clear kut kur krl kot koi
    go_upto_region 7 with fail
    go_cut [16] (fun t16 wx => t16 = .bool (n2 || (ui.toList == [42] && ur.toList.isEmpty)) ∧ R3 w #[.string ut, .string ui, .string ur, .string rel, .string ot, .string oi] wx ∧ Has N #[.string b1, .string b2, .string b3, .string rel, .string b4, .string b5] 28 wx)
    case first =>
      go_wp2_with (go_at_call 10; refine (kui _ pc.bel).mono ?_; rintro e w3 ⟨he3, hb3⟩; obtain ⟨a3, rfl⟩ := errV_of he3; clear he3; have p3 := pc.step hb3; have g3 := gp.step hb3)
      all_goals
        go_meet
        exact ⟨by simp [*], p3, g3⟩
    case rest =>
    obtain ⟨rfl, pd, gd⟩ := hcut
    generalize hB1 : (n2 || (ui.toList == [42] && ur.toList.isEmpty)) = B1 at *
    have HB1 := hide hB1
    clear hB1
    go_upto_region 8 with fail
    go_cut [17] (fun t17 wx => t17 = .bool (ur.toList.isEmpty || n3) ∧ R3 w #[.string ut, .string ui, .string ur, .string rel, .string ot, .string oi] wx ∧ Has N #[.string b1, .string b2, .string b3, .string rel, .string b4, .string b5] 28 wx)
    case first =>
      go_wp2_with (go_at_call 10; refine (KUR.out _ pd.bel).mono ?_; rintro e w4 ⟨he4, hb4⟩; obtain ⟨a4, rfl⟩ := errV_of he4; clear he4; have p4 := pd.step hb4; have g4 := gd.step hb4)
      all_goals
        go_meet
        first
          | exact ⟨by simp [*], p4, g4⟩
          | exact ⟨by simp [*], pd, gd⟩
    case rest =>
    obtain ⟨rfl, pe, ge⟩ := hcut
    generalize hB2 : (ur.toList.isEmpty || n3) = B2 at *
    have HB2 := hide hB2
    clear hB2
    go_upto_region 9 with fail
    go_cut [16, 17, 18] (fun _ _ t18 wx => t18 = .bool (n1 && (B1 && (B2 && (n4 && (n5 && n6))))) ∧ R3 w #[.string ut, .string ui, .string ur, .string rel, .string ot, .string oi] wx ∧ Has N #[.string b1, .string b2, .string b3, .string rel, .string b4, .string b5] 28 wx)
    case first =>
      go_wp2_with (first
        | (go_at_call 10; refine (KOI.out _ p7.bel).mono ?_; rintro e w8 ⟨he8, hb8⟩; obtain ⟨a8, rfl⟩ := errV_of he8; clear he8; have p8 := p7.step hb8; have g8 := g7.step hb8)
        | (go_at_call 10; refine (KOT.out _ p6.bel).mono ?_; rintro e w7 ⟨he7, hb7⟩; obtain ⟨a7, rfl⟩ := errV_of he7; clear he7; have p7 := p6.step hb7; have g7 := g6.step hb7)
        | (go_at_call 10; refine (KRL.out _ p5.bel).mono ?_; rintro e w6 ⟨he6, hb6⟩; obtain ⟨a6, rfl⟩ := errV_of he6; clear he6; have p6 := p5.step hb6; have g6 := g5.step hb6)
        | (go_at_call 10; refine (KUT.out _ pe.bel).mono ?_; rintro e w5 ⟨he5, hb5⟩; obtain ⟨a5, rfl⟩ := errV_of he5; clear he5; have p5 := pe.step hb5; have g5 := ge.step hb5))
      all_goals
        go_meet
        first
          | exact ⟨by simp [*], p8, g8⟩
          | exact ⟨by simp [*], p7, g7⟩
          | exact ⟨by simp [*], p6, g6⟩
          | exact ⟨by simp [*], p5, g5⟩
    case rest =>
    obtain ⟨rfl, p3, g3⟩ := hcut
    clear kui
    have HLV : Hid ((true && (b1.toList == ut.toList && (b2.toList == ui.toList && (b3.toList == ur.toList && (b4.toList == ot.toList && b5.toList == oi.toList))))) = (n1 && (B1 && (B2 && (n4 && (n5 && n6)))))) := hide (by
      rw [HL.out, ← HB1.out, ← HB2.out]
      generalize (n2 || (ui.toList == [42] && ur.toList.isEmpty)) = x
      generalize (ur.toList.isEmpty || n3) = y
      cases n1 <;> cases x <;> cases y <;> rfl)
    generalize (n1 && (B1 && (B2 && (n4 && (n5 && n6))))) = V at *
    clear HL HB1 HB2
    obtain ⟨⟨ua, ub, uc, ud, ue, uf⟩, _⟩ := p3.tb.c6
    obtain ⟨⟨va, vb, vc, vd, ve, vf⟩, _⟩ := g3.c6
    cases V with
    | true =>
      go_wp2_with fail
      all_goals first
        | (go_ret
           exact ⟨rfl, p3.bel⟩)
        | (exfalso
           exact absurd HLV.out (by simp [*]))
    | false =>
      go_wp2_with fail
      all_goals first
        | (go_ret
           exact ⟨rfl, p3.bel⟩)
        | (exfalso
           exact absurd HLV.out (by simp [*]))

set_option maxHeartbeats 16000000 in
set_option maxRecDepth 100000 in
theorem law3_0 (F : Interp) (ut ui ur rel ot oi : ByteArray) (w : World) (hF : F.told.answers w.tape) (hT : Tabs w) (hv : w.cell? ⟨0, 0, none⟩ = some (.bool false)) (hg : 0 < w.heap.size)
    (h1 : ut.size ≤ 131072) (h2 : ui.size ≤ 131072) (h3 : ur.size ≤ 131072) (h4 : rel.size ≤ 131072) (h5 : ot.size ≤ 131072) (h6 : oi.size ≤ 131072) (hp : pOK false (uStr ut ui ur) rel (ot ++ ⟨#[58]⟩ ++ oi) = false) :
    Calls Tryf.prog 3 #[.string ut, .string ui, .string ur, .string rel, .string ot, .string oi] w fun e w' => e = .returned (.bool true) ∧ Below w.heap.size w w' := by
  have q0 := R3.start w #[.string ut, .string ui, .string ur, .string rel, .string ot, .string oi]
  have k6 := bytes6 ut ui ur rel ot oi w (by omega) (by omega) (by omega) (by omega) (by omega) (by omega)
  have k8 : ∀ wn, Calls Tryf.prog 8 #[.agg #[.string ut, .string ui, .string ur]] wn fun e w' => e = .returned (.string (uStr ut ui ur)) ∧ Below wn.heap.size wn w' := fun wn => userString ut ui ur wn (by omega) (by omega) (by omega)
  have k9 : ∀ wn, Calls Tryf.prog 9 #[.agg #[.string ot, .string oi]] wn fun e w' => e = .returned (.string (ot ++ ⟨#[58]⟩ ++ oi)) ∧ Below wn.heap.size wn w' := fun wn => objString ot oi wn (by omega) (by omega)
  have hz1 : (uStr ut ui ur).size ≤ 1000000000 := by
    unfold uStr
    split <;> simp [ByteArray.size_append] <;> first | omega | (have e1 : (ByteArray.mk #[58]).size = 1 := rfl; have e2 : (ByteArray.mk #[35]).size = 1 := rfl; omega)
  have hz2 : (ot ++ ⟨#[58]⟩ ++ oi : ByteArray).size ≤ 1000000000 := by
    simp [ByteArray.size_append]
    have e1 : (ByteArray.mk #[58]).size = 1 := rfl
    omega
  have k7 : ∀ wn, Below w.heap.size w wn → Calls Tryf.prog 7 #[.bool false, .string (uStr ut ui ur), .string rel, .string (ot ++ ⟨#[58]⟩ ++ oi)] wn fun e w' => Tup (pOK false (uStr ut ui ur) rel (ot ++ ⟨#[58]⟩ ++ oi)) (bef 58 (uStr ut ui ur)) (bef 35 (aft 58 (uStr ut ui ur))) (aft 35 (aft 58 (uStr ut ui ur))) rel (bef 58 (ot ++ ⟨#[58]⟩ ++ oi)) (aft 58 (ot ++ ⟨#[58]⟩ ++ oi)) e ∧ Below wn.heap.size wn w' :=
    fun wn h => zzParse F false _ rel _ wn (by rw [h.tape]; exact hF) (hT.below h) hz1 (by omega) hz2
  have kn : ∀ (p s : ByteArray), p.size ≤ 1000 → s.size ≤ 131072 → ∀ wn, Below w.heap.size w wn → Calls Tryf.prog 10 #[.string p, .string s] wn fun e w' => ErrIff (nameOK false s.data.toList) e ∧ Below wn.heap.size wn w' :=
    fun p s hp' hs' wn h => checkNameT F p s wn (by rw [h.tape]; exact hF) (hT.below h) (by rw [h.cell hg]; exact hv) (by omega) (by omega)
  have kui := kn ⟨#[116, 121, 112, 101]⟩ ui (by decide) h2
  have kut := kn ⟨#[116, 121, 112, 101]⟩ ut (by decide) h1
  have kot := kn ⟨#[116, 121, 112, 101]⟩ ot (by decide) h5
  have koi := kn ⟨#[116, 121, 112, 101]⟩ oi (by decide) h6
  have kur := kn ⟨#[114, 101, 108, 97, 116, 105, 111, 110]⟩ ur (by decide) h3
  have krl := kn ⟨#[114, 101, 108, 97, 116, 105, 111, 110]⟩ rel (by decide) h4
  have HL := hide (tuple_law ut ui ur rel ot oi)
  unfold uOK at HL
  rw [hp] at HL k7
  clear hz1 hz2 hv hp kn hF hT
  generalize bef 58 (uStr ut ui ur) = b1 at *
  generalize bef 35 (aft 58 (uStr ut ui ur)) = b2 at *
  generalize aft 35 (aft 58 (uStr ut ui ur)) = b3 at *
  generalize bef 58 (ot ++ ⟨#[58]⟩ ++ oi) = b4 at *
  generalize aft 58 (ot ++ ⟨#[58]⟩ ++ oi) = b5 at *
  generalize uStr ut ui ur = S1 at *
  generalize (ot ++ ⟨#[58]⟩ ++ oi : ByteArray) = S2 at *
  generalize nameOK false ut.data.toList = n1 at *
  generalize nameOK false ui.data.toList = n2 at *
  generalize nameOK false ur.data.toList = n3 at *
  generalize nameOK false rel.data.toList = n4 at *
  generalize nameOK false ot.data.toList = n5 at *
  generalize nameOK false oi.data.toList = n6 at *
  go_enter Tryf.func3, Tryf.ntmps3
  go_upto_region 6 with (go_at_call 6; refine k6.mono ?_; rintro e wz ⟨⟨bz, rfl, hbz⟩, hwz⟩; rw [hwz]; clear hwz wz)
  · go_ret
    exact ⟨rfl, Below.refl _ _⟩
  have q0d := q0.drew
  have HE0 : Hid ((w.alloc (.cells #[.string ut, .string ui, .string ur, .string rel, .string ot, .string oi] 28)).drew.heap.size = w.heap.size + 1) := hide (by show (w.alloc (.cells #[.string ut, .string ui, .string ur, .string rel, .string ot, .string oi] 28)).heap.size = _; simp)
  go_cut [14, 15] (fun t14 t15 wx => ∃ (N : Nat) (a : Addr), t14 = .pointer (some ⟨N, 0, none⟩) ∧ t15 = errV false a ∧ R3 w #[.string ut, .string ui, .string ur, .string rel, .string ot, .string oi] wx ∧ Has N #[.string ⟨#[]⟩, .string ⟨#[]⟩, .string ⟨#[]⟩, .string ⟨#[]⟩, .string ⟨#[]⟩, .string ⟨#[]⟩] 28 wx)
  case first =>
    go_region_held3 (fun w' => w'.cell? ⟨w.heap.size, 0, none⟩ = some (.string ut) ∧ w'.cell? ⟨w.heap.size, 1, none⟩ = some (.string ui) ∧ w'.cell? ⟨w.heap.size, 2, none⟩ = some (.string ur) ∧ w'.cell? ⟨w.heap.size, 4, none⟩ = some (.string ot) ∧ w'.cell? ⟨w.heap.size, 5, none⟩ = some (.string oi)) (go_keep) ((first
      | (go_at_call 8; refine (k8 _).mono ?_; rintro e w8 ⟨rfl, hb8⟩; have q8 : R3 w #[.string ut, .string ui, .string ur, .string rel, .string ot, .string oi] w8 := (by first | exact q9.step hb8 | exact (q9.step (below_alloc _ _)).step hb8 | exact q0d.step hb8 | exact (q0d.step (below_alloc _ _)).step hb8); obtain ⟨⟨x8a, x8b, x8c, x8d, x8e, x8f⟩, _⟩ := q8.tb.c6; have n8 := Nat.ne_of_lt q8.tb.lt; have m8 := n8.symm; (first | (have g8 : Has w9.heap.size #[.string ⟨#[]⟩, .string ⟨#[]⟩, .string ⟨#[]⟩, .string ⟨#[]⟩, .string ⟨#[]⟩, .string ⟨#[]⟩] 28 w8 := (Has.new w9 _ _).step hb8; (obtain ⟨⟨y8a, y8b, y8c, y8d, y8e, y8f⟩, z8a, z8b, z8c, z8d, z8e, z8f⟩ := (g8).c6)) | (have g8 : Has w8.heap.size #[.string ⟨#[]⟩, .string ⟨#[]⟩, .string ⟨#[]⟩, .string ⟨#[]⟩, .string ⟨#[]⟩, .string ⟨#[]⟩] 28 w8 := (Has.new w8 _ _).step hb8; (obtain ⟨⟨y8a, y8b, y8c, y8d, y8e, y8f⟩, z8a, z8b, z8c, z8d, z8e, z8f⟩ := (g8).c6)) | (have g8 : Has (w.heap.size + 1) #[.string ⟨#[]⟩, .string ⟨#[]⟩, .string ⟨#[]⟩, .string ⟨#[]⟩, .string ⟨#[]⟩, .string ⟨#[]⟩] 28 w8 := (by have h := (Has.new (w.alloc (.cells #[.string ut, .string ui, .string ur, .string rel, .string ot, .string oi] 28)).drew _ _).step hb8; rw [HE0.out] at h; exact h); (obtain ⟨⟨y8a, y8b, y8c, y8d, y8e, y8f⟩, z8a, z8b, z8c, z8d, z8e, z8f⟩ := (g8).c6)) | skip))
      | (go_at_call 9; refine (k9 _).mono ?_; rintro e w9 ⟨rfl, hb9⟩; have q9 : R3 w #[.string ut, .string ui, .string ur, .string rel, .string ot, .string oi] w9 := (by first | exact q8.step hb9 | exact (q8.step (below_alloc _ _)).step hb9 | exact q0d.step hb9 | exact (q0d.step (below_alloc _ _)).step hb9); obtain ⟨⟨x9a, x9b, x9c, x9d, x9e, x9f⟩, _⟩ := q9.tb.c6; have n9 := Nat.ne_of_lt q9.tb.lt; have m9 := n9.symm; (first | (have g9 : Has w9.heap.size #[.string ⟨#[]⟩, .string ⟨#[]⟩, .string ⟨#[]⟩, .string ⟨#[]⟩, .string ⟨#[]⟩, .string ⟨#[]⟩] 28 w9 := (Has.new w9 _ _).step hb9; (obtain ⟨⟨y9a, y9b, y9c, y9d, y9e, y9f⟩, z9a, z9b, z9c, z9d, z9e, z9f⟩ := (g9).c6)) | (have g9 : Has w8.heap.size #[.string ⟨#[]⟩, .string ⟨#[]⟩, .string ⟨#[]⟩, .string ⟨#[]⟩, .string ⟨#[]⟩, .string ⟨#[]⟩] 28 w9 := (Has.new w8 _ _).step hb9; (obtain ⟨⟨y9a, y9b, y9c, y9d, y9e, y9f⟩, z9a, z9b, z9c, z9d, z9e, z9f⟩ := (g9).c6)) | (have g9 : Has (w.heap.size + 1) #[.string ⟨#[]⟩, .string ⟨#[]⟩, .string ⟨#[]⟩, .string ⟨#[]⟩, .string ⟨#[]⟩, .string ⟨#[]⟩] 28 w9 := (by have h := (Has.new (w.alloc (.cells #[.string ut, .string ui, .string ur, .string rel, .string ot, .string oi] 28)).drew _ _).step hb9; rw [HE0.out] at h; exact h); (obtain ⟨⟨y9a, y9b, y9c, y9d, y9e, y9f⟩, z9a, z9b, z9c, z9d, z9e, z9f⟩ := (g9).c6)) | (have g9 := g8.step hb9; (obtain ⟨⟨y9a, y9b, y9c, y9d, y9e, y9f⟩, z9a, z9b, z9c, z9d, z9e, z9f⟩ := (g9).c6)) | skip))
      | (go_at_call 7; refine (k7 _ (by first | exact q9.bel | exact (q9.step (below_alloc _ _)).bel | exact q8.bel | exact (q8.step (below_alloc _ _)).bel)).mono ?_; rintro e w7 ⟨⟨a7, rfl⟩, hb7⟩; have q7 : R3 w #[.string ut, .string ui, .string ur, .string rel, .string ot, .string oi] w7 := (by first | exact q9.step hb7 | exact (q9.step (below_alloc _ _)).step hb7 | exact q8.step hb7 | exact (q8.step (below_alloc _ _)).step hb7); obtain ⟨⟨x7a, x7b, x7c, x7d, x7e, x7f⟩, _⟩ := q7.tb.c6; (first | (have g7 : Has w9.heap.size #[.string ⟨#[]⟩, .string ⟨#[]⟩, .string ⟨#[]⟩, .string ⟨#[]⟩, .string ⟨#[]⟩, .string ⟨#[]⟩] 28 w7 := (Has.new w9 _ _).step hb7; (obtain ⟨⟨y7a, y7b, y7c, y7d, y7e, y7f⟩, z7a, z7b, z7c, z7d, z7e, z7f⟩ := (g7).c6)) | (have g7 : Has w8.heap.size #[.string ⟨#[]⟩, .string ⟨#[]⟩, .string ⟨#[]⟩, .string ⟨#[]⟩, .string ⟨#[]⟩, .string ⟨#[]⟩] 28 w7 := (Has.new w8 _ _).step hb7; (obtain ⟨⟨y7a, y7b, y7c, y7d, y7e, y7f⟩, z7a, z7b, z7c, z7d, z7e, z7f⟩ := (g7).c6)) | (have g7 : Has (w.heap.size + 1) #[.string ⟨#[]⟩, .string ⟨#[]⟩, .string ⟨#[]⟩, .string ⟨#[]⟩, .string ⟨#[]⟩, .string ⟨#[]⟩] 28 w7 := (by have h := (Has.new (w.alloc (.cells #[.string ut, .string ui, .string ur, .string rel, .string ot, .string oi] 28)).drew _ _).step hb7; rw [HE0.out] at h; exact h); (obtain ⟨⟨y7a, y7b, y7c, y7d, y7e, y7f⟩, z7a, z7b, z7c, z7d, z7e, z7f⟩ := (g7).c6)) | (have g7 := g9.step hb7; (obtain ⟨⟨y7a, y7b, y7c, y7d, y7e, y7f⟩, z7a, z7b, z7c, z7d, z7e, z7f⟩ := (g7).c6)) | (have g7 := g8.step hb7; (obtain ⟨⟨y7a, y7b, y7c, y7d, y7e, y7f⟩, z7a, z7b, z7c, z7d, z7e, z7f⟩ := (g7).c6)) | skip))))
    all_goals
      go_wp2_with fail
      go_meet
      first
        | (have hg7 : Has w9.heap.size #[.string ⟨#[]⟩, .string ⟨#[]⟩, .string ⟨#[]⟩, .string ⟨#[]⟩, .string ⟨#[]⟩, .string ⟨#[]⟩] 28 _ := g7.set6 (.string ⟨#[]⟩) (.string ⟨#[]⟩) (.string ⟨#[]⟩) (.string ⟨#[]⟩) (.string ⟨#[]⟩) (.string ⟨#[]⟩)
           refine ⟨w9.heap.size, a7, rfl, rfl, ?_, hg7⟩
           exact q7.set6 q9.tb.lt (.string ⟨#[]⟩) (.string ⟨#[]⟩) (.string ⟨#[]⟩) (.string ⟨#[]⟩) (.string ⟨#[]⟩) (.string ⟨#[]⟩))
        | (have hg7 : Has w8.heap.size #[.string ⟨#[]⟩, .string ⟨#[]⟩, .string ⟨#[]⟩, .string ⟨#[]⟩, .string ⟨#[]⟩, .string ⟨#[]⟩] 28 _ := g7.set6 (.string ⟨#[]⟩) (.string ⟨#[]⟩) (.string ⟨#[]⟩) (.string ⟨#[]⟩) (.string ⟨#[]⟩) (.string ⟨#[]⟩)
           refine ⟨w8.heap.size, a7, rfl, rfl, ?_, hg7⟩
           exact q7.set6 q8.tb.lt (.string ⟨#[]⟩) (.string ⟨#[]⟩) (.string ⟨#[]⟩) (.string ⟨#[]⟩) (.string ⟨#[]⟩) (.string ⟨#[]⟩))
        | (have hg7 : Has (w.heap.size + 1) #[.string ⟨#[]⟩, .string ⟨#[]⟩, .string ⟨#[]⟩, .string ⟨#[]⟩, .string ⟨#[]⟩, .string ⟨#[]⟩] 28 _ := g7.set6 (.string ⟨#[]⟩) (.string ⟨#[]⟩) (.string ⟨#[]⟩) (.string ⟨#[]⟩) (.string ⟨#[]⟩) (.string ⟨#[]⟩)
           refine ⟨w.heap.size + 1, a7, rfl, rfl, ?_, hg7⟩
           exact q7.set6 (Nat.lt_succ_self _) (.string ⟨#[]⟩) (.string ⟨#[]⟩) (.string ⟨#[]⟩) (.string ⟨#[]⟩) (.string ⟨#[]⟩) (.string ⟨#[]⟩))
        | (have hg7 := Has.new w7 #[.string ⟨#[]⟩, .string ⟨#[]⟩, .string ⟨#[]⟩, .string ⟨#[]⟩, .string ⟨#[]⟩, .string ⟨#[]⟩] 28
           refine ⟨w7.heap.size, a7, rfl, rfl, ?_, hg7⟩
           exact q7.step (below_alloc _ _))
  case rest =>
    obtain ⟨N, aE, rfl, rfl, pc, gp⟩ := hcut
    clear k6 k7 k8 k9 q0 q0d
    have KUT := hide kut
    have KUR := hide kur
    have KRL := hide krl
    have KOT := hide kot
    have KOI := hide koi
    clear kut kur krl kot koi
    go_upto_region 7 with fail
    go_cut [16] (fun t16 wx => t16 = .bool (n2 || (ui.toList == [42] && ur.toList.isEmpty)) ∧ R3 w #[.string ut, .string ui, .string ur, .string rel, .string ot, .string oi] wx ∧ Has N #[.string ⟨#[]⟩, .string ⟨#[]⟩, .string ⟨#[]⟩, .string ⟨#[]⟩, .string ⟨#[]⟩, .string ⟨#[]⟩] 28 wx)
    case first =>
      go_wp2_with (go_at_call 10; refine (kui _ pc.bel).mono ?_; rintro e w3 ⟨he3, hb3⟩; obtain ⟨a3, rfl⟩ := errV_of he3; clear he3; have p3 := pc.step hb3; have g3 := gp.step hb3)
      all_goals
        go_meet
        exact ⟨by simp [*], p3, g3⟩
    case rest =>
    obtain ⟨rfl, pd, gd⟩ := hcut
    generalize hB1 : (n2 || (ui.toList == [42] && ur.toList.isEmpty)) = B1 at *
    have HB1 := hide hB1
    clear hB1
    go_upto_region 8 with fail
    go_cut [17] (fun t17 wx => t17 = .bool (ur.toList.isEmpty || n3) ∧ R3 w #[.string ut, .string ui, .string ur, .string rel, .string ot, .string oi] wx ∧ Has N #[.string ⟨#[]⟩, .string ⟨#[]⟩, .string ⟨#[]⟩, .string ⟨#[]⟩, .string ⟨#[]⟩, .string ⟨#[]⟩] 28 wx)
    case first =>
      go_wp2_with (go_at_call 10; refine (KUR.out _ pd.bel).mono ?_; rintro e w4 ⟨he4, hb4⟩; obtain ⟨a4, rfl⟩ := errV_of he4; clear he4; have p4 := pd.step hb4; have g4 := gd.step hb4)
      all_goals
        go_meet
        first
          | exact ⟨by simp [*], p4, g4⟩
          | exact ⟨by simp [*], pd, gd⟩
    case rest =>
    obtain ⟨rfl, pe, ge⟩ := hcut
    generalize hB2 : (ur.toList.isEmpty || n3) = B2 at *
    have HB2 := hide hB2
    clear hB2
    go_upto_region 9 with fail
    go_cut [16, 17, 18] (fun _ _ t18 wx => t18 = .bool (n1 && (B1 && (B2 && (n4 && (n5 && n6))))) ∧ R3 w #[.string ut, .string ui, .string ur, .string rel, .string ot, .string oi] wx ∧ Has N #[.string ⟨#[]⟩, .string ⟨#[]⟩, .string ⟨#[]⟩, .string ⟨#[]⟩, .string ⟨#[]⟩, .string ⟨#[]⟩] 28 wx)
    case first =>
      go_wp2_with (first
        | (go_at_call 10; refine (KOI.out _ p7.bel).mono ?_; rintro e w8 ⟨he8, hb8⟩; obtain ⟨a8, rfl⟩ := errV_of he8; clear he8; have p8 := p7.step hb8; have g8 := g7.step hb8)
        | (go_at_call 10; refine (KOT.out _ p6.bel).mono ?_; rintro e w7 ⟨he7, hb7⟩; obtain ⟨a7, rfl⟩ := errV_of he7; clear he7; have p7 := p6.step hb7; have g7 := g6.step hb7)
        | (go_at_call 10; refine (KRL.out _ p5.bel).mono ?_; rintro e w6 ⟨he6, hb6⟩; obtain ⟨a6, rfl⟩ := errV_of he6; clear he6; have p6 := p5.step hb6; have g6 := g5.step hb6)
        | (go_at_call 10; refine (KUT.out _ pe.bel).mono ?_; rintro e w5 ⟨he5, hb5⟩; obtain ⟨a5, rfl⟩ := errV_of he5; clear he5; have p5 := pe.step hb5; have g5 := ge.step hb5))
      all_goals
        go_meet
        first
          | exact ⟨by simp [*], p8, g8⟩
          | exact ⟨by simp [*], p7, g7⟩
          | exact ⟨by simp [*], p6, g6⟩
          | exact ⟨by simp [*], p5, g5⟩
    case rest =>
    obtain ⟨rfl, p3, g3⟩ := hcut
    clear kui
    have HLV : Hid ((false && (b1.toList == ut.toList && (b2.toList == ui.toList && (b3.toList == ur.toList && (b4.toList == ot.toList && b5.toList == oi.toList))))) = (n1 && (B1 && (B2 && (n4 && (n5 && n6)))))) := hide (by
      rw [HL.out, ← HB1.out, ← HB2.out]
      generalize (n2 || (ui.toList == [42] && ur.toList.isEmpty)) = x
      generalize (ur.toList.isEmpty || n3) = y
      cases n1 <;> cases x <;> cases y <;> rfl)
    generalize (n1 && (B1 && (B2 && (n4 && (n5 && n6))))) = V at *
    clear HL HB1 HB2
    obtain ⟨⟨ua, ub, uc, ud, ue, uf⟩, _⟩ := p3.tb.c6
    obtain ⟨⟨va, vb, vc, vd, ve, vf⟩, _⟩ := g3.c6
    cases V with
    | true =>
      go_wp2_with fail
      all_goals first
        | (go_ret
           exact ⟨rfl, p3.bel⟩)
        | (exfalso
           exact absurd HLV.out (by simp [*]))
    | false =>
      go_wp2_with fail
      all_goals first
        | (go_ret
           exact ⟨rfl, p3.bel⟩)
        | (exfalso
           exact absurd HLV.out (by simp [*]))

set_option maxHeartbeats 4000000 in
set_option maxRecDepth 100000 in
theorem law3_big (ut ui ur rel ot oi : ByteArray) (w : World) (h1 : ut.size ≤ 140737488355328) (h2 : ui.size ≤ 140737488355328) (h3 : ur.size ≤ 140737488355328) (h4 : rel.size ≤ 140737488355328) (h5 : ot.size ≤ 140737488355328) (h6 : oi.size ≤ 140737488355328)
    (hb : 131072 < ut.size ∨ 131072 < ui.size ∨ 131072 < ur.size ∨ 131072 < rel.size ∨ 131072 < ot.size ∨ 131072 < oi.size) :
    Calls Tryf.prog 3 #[.string ut, .string ui, .string ur, .string rel, .string ot, .string oi] w fun e w' => e = .returned (.bool true) ∧ Below w.heap.size w w' := by
  have k6 := bytes6 ut ui ur rel ot oi w h1 h2 h3 h4 h5 h6
  have HB := hide hb
  clear hb
  go_enter Tryf.func3, Tryf.ntmps3
  go_upto_region 6 with (go_at_call 6; refine k6.mono ?_; rintro e wz ⟨⟨bz, rfl, hbz⟩, hwz⟩; rw [hwz]; clear hwz wz)
  all_goals first
    | (go_ret
       exact ⟨rfl, Below.refl _ _⟩)
    | (exfalso
       have hb := HB.out
       omega)

theorem law3 (F : Interp) (ut ui ur rel ot oi : ByteArray) (w : World) (hF : F.told.answers w.tape) (hT : Tabs w) (hv : w.cell? ⟨0, 0, none⟩ = some (.bool false)) (hg : 0 < w.heap.size)
    (h1 : ut.size ≤ 140737488355328) (h2 : ui.size ≤ 140737488355328) (h3 : ur.size ≤ 140737488355328) (h4 : rel.size ≤ 140737488355328) (h5 : ot.size ≤ 140737488355328) (h6 : oi.size ≤ 140737488355328) :
    Calls Tryf.prog 3 #[.string ut, .string ui, .string ur, .string rel, .string ot, .string oi] w fun e w' => e = .returned (.bool true) ∧ Below w.heap.size w w' := by
  by_cases c : 131072 < ut.size ∨ 131072 < ui.size ∨ 131072 < ur.size ∨ 131072 < rel.size ∨ 131072 < ot.size ∨ 131072 < oi.size
  · exact law3_big ut ui ur rel ot oi w h1 h2 h3 h4 h5 h6 c
  · cases hp : pOK false (uStr ut ui ur) rel (ot ++ ⟨#[58]⟩ ++ oi) with
    | true => exact law3_1 F ut ui ur rel ot oi w hF hT hv hg (by omega) (by omega) (by omega) (by omega) (by omega) (by omega) hp
    | false => exact law3_0 F ut ui ur rel ot oi w hF hT hv hg (by omega) (by omega) (by omega) (by omega) (by omega) (by omega) hp

end Go.Proofs.Qxb6606413aFmt
