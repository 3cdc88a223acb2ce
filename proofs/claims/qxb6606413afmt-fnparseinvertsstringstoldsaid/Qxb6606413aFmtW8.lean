/-
  Seat b6606413aF: parseObject, parse, ZZparse, Object.String.
-/
import Derived.Test.Qxb6606413aFmtW6
namespace Go.Proofs.Qxb6606413aFmt
open Go.RowKit Go.Lib
open Go.Extern.Stop Go.Stop Go.Extern

/-- An object and no error where b is true; the zero object and an error else. -/
def Obj2 (b : Bool) (ty id : ByteArray) (e : Ending) : Prop := match b with
  | true => e = .returned (.tuple #[.agg #[.string ty, .string id], .nilIface])
  | false => ∃ a, e = .returned (.tuple #[.agg #[.string ⟨#[]⟩, .string ⟨#[]⟩], .iface 80 (.pointer (some a))])

/-- The text reads as an object. -/
def poOK (fm : Bool) (s : ByteArray) : Bool := hasB 58 s && tyOK fm false (bef 58 s).data.toList (aft 58 s).data.toList

structure Ko (w : World) (fm : Bool) (wn : World) : Prop where
  bel : Below w.heap.size w wn
  box : wn.cell? ⟨w.heap.size, 0, none⟩ = some (.bool fm)
  blk : wn.heap[w.heap.size + 1]? = some (.cells #[.string ⟨#[]⟩, .string ⟨#[]⟩] 26)
  len : w.heap.size + 2 ≤ wn.heap.size

theorem Ko.step {w a b : World} {fm : Bool} (h : Ko w fm a) (k : Below a.heap.size a b) : Ko w fm b := by
  have hl := h.len
  refine ⟨bstep h.bel k, ?_, ?_, Nat.le_trans h.len k.size⟩
  · rw [k.cell (show w.heap.size < a.heap.size by omega)]; exact h.box
  · rw [k.block _ (by omega)]; exact h.blk

theorem Ko.start (w : World) (fm : Bool) : Ko w fm ((w.alloc (.cells #[.bool fm] 42)).alloc (.cells #[.string ⟨#[]⟩, .string ⟨#[]⟩] 26)) := by
  refine ⟨((Below.refl _ w).alloc (Nat.le_refl _) _).alloc (by simp) _, ?_, ?_, by simp⟩
  · simp
  · have h := heap_alloc_new (w.alloc (.cells #[.bool fm] 42)) (.cells #[.string ⟨#[]⟩, .string ⟨#[]⟩] 26)
    have e : (w.alloc (.cells #[.bool fm] 42)).heap.size = w.heap.size + 1 := by simp
    rw [e] at h
    exact h
theorem Ko.c {w a : World} {fm : Bool} (h : Ko w fm a) : a.cell? ⟨w.heap.size + 1, 0, none⟩ = some (.string ⟨#[]⟩) ∧ a.cell? ⟨w.heap.size + 1, 1, none⟩ = some (.string ⟨#[]⟩) := by
  simp [World.cell?, h.blk]
theorem Ko.f {w a : World} {fm : Bool} (h : Ko w fm a) : a.frozen? ⟨w.heap.size + 1, 0, none⟩ = false ∧ a.frozen? ⟨w.heap.size + 1, 1, none⟩ = false := by
  simp [World.frozen?, h.blk]

set_option maxHeartbeats 1600000 in
set_option maxRecDepth 100000 in
theorem parseObject (F : Interp) (fm : Bool) (s : ByteArray) (w : World) (hF : F.told.answers w.tape) (hT : Tabs w) (hs : s.size ≤ 1000000000) :
    Calls Tryf.prog 19 #[.agg #[.bool fm], .string s] w fun e w' => Obj2 (poOK fm s) (bef 58 s) (aft 58 s) e ∧ Below w.heap.size w w' := by
  have q0 := Ko.start w fm
  have hra : (aft 58 s).size ≤ 1000000000 := Nat.le_trans (aft_size 58 s) hs
  have k1 : ∀ wn, Calls Tryf.prog 22 #[.string s, .string ⟨#[58]⟩] wn fun e w' => e = .returned (.tuple #[.string (bef 58 s), .string (aft 58 s), .bool (hasB 58 s)]) ∧ Below wn.heap.size wn w' := fun wn => cut1 s 58 wn hs
  have k3 : ∀ wn, Below w.heap.size w wn → Calls Tryf.prog 23 #[.agg #[.bool fm], .string (bef 58 s), .string (aft 58 s), .bool false] wn fun e w' => Part (tyOK fm false (bef 58 s).data.toList (aft 58 s).data.toList) e ∧ Below wn.heap.size wn w' := fun wn h => checkTypeID F fm _ _ _ wn (by rw [h.tape]; exact hF) (hT.below h) (Nat.le_trans (bef_size 58 s) hs) hra
  have k5 : ∀ t : ByteArray, ∀ wn, Below w.heap.size w wn → Calls Tryf.prog 21 #[.string ⟨#[111, 98, 106, 101, 99, 116, 32, 37, 113, 58, 32, 37, 115]⟩, .slice (some ⟨wn.heap.size, 0, none⟩) 2 2] (wn.alloc (.cells #[.iface 9 (.string s), .iface 9 (.string t)] 20)) fun e w' => Err e ∧ Below wn.heap.size wn w' := fun t wn h => errorf_object F.told s t wn (by rw [h.tape]; exact hF)
  unfold poOK
  generalize hxty : bef 58 s = ty at *
  generalize hxre : aft 58 s = re at *
  generalize hxo : hasB 58 s = ok at *
  clear hxty hxre hxo
  cases ok with
  | false =>
    rw [Bool.false_and]
    go_enter Tryf.func19, Tryf.ntmps19
    go_wp2_with (first
      | (go_at_call 21; refine (k5 _ w1 q1.bel).mono ?_; rintro e w5 ⟨⟨a5, rfl⟩, hb5⟩; have q5 := q1.step hb5; have hx5 := q5.box; obtain ⟨ca5, cb5⟩ := q5.c; obtain ⟨fa5, fb5⟩ := q5.f)
      | (go_at_call 22; refine (k1 _).mono ?_; rintro e w1 ⟨rfl, hb1⟩; have q1 := q0.step hb1; have hx1 := q1.box; obtain ⟨ca1, cb1⟩ := q1.c; obtain ⟨fa1, fb1⟩ := q1.f))
    (try simp only [Exit.inBlock, Exit.then])
    refine bodyPost_ret (v := .tuple #[.agg #[.string ⟨#[]⟩, .string ⟨#[]⟩], .iface 80 (.pointer (some a5))]) ?_ rfl ⟨⟨_, rfl⟩, ?_⟩
    · rw [results_cell_tmp rfl]
      go_simp
    · exact (q5.bel.setCell (by simp) _).setCell (by simp) _
  | true =>
    rw [Bool.true_and]
    generalize hxt : tyOK fm false ty.data.toList re.data.toList = tk at *
    clear hxt
    cases tk with
    | false =>
      go_enter Tryf.func19, Tryf.ntmps19
      go_wp2_with (first
        | (go_at_call 21; refine (k5 _ w3 q3.bel).mono ?_; rintro e w5 ⟨⟨a5, rfl⟩, hb5⟩; have q5 := q3.step hb5; have hx5 := q5.box; obtain ⟨ca5, cb5⟩ := q5.c; obtain ⟨fa5, fb5⟩ := q5.f)
        | (go_at_call 23; refine (k3 w1 q1.bel).mono ?_; rintro e w3 ⟨⟨t3, rfl, ht3⟩, hb3⟩; have q3 := q1.step hb3; have hx3 := q3.box; obtain ⟨ca3, cb3⟩ := q3.c; obtain ⟨fa3, fb3⟩ := q3.f)
        | (go_at_call 22; refine (k1 _).mono ?_; rintro e w1 ⟨rfl, hb1⟩; have q1 := q0.step hb1; have hx1 := q1.box; obtain ⟨ca1, cb1⟩ := q1.c; obtain ⟨fa1, fb1⟩ := q1.f))
      (try simp only [Exit.inBlock, Exit.then])
      refine bodyPost_ret (v := .tuple #[.agg #[.string ⟨#[]⟩, .string ⟨#[]⟩], .iface 80 (.pointer (some a5))]) ?_ rfl ⟨⟨_, rfl⟩, ?_⟩
      · rw [results_cell_tmp rfl]
        go_simp
      · exact (q5.bel.setCell (by simp) _).setCell (by simp) _
    | true =>
      go_enter Tryf.func19, Tryf.ntmps19
      go_wp2_with (first
        | (go_at_call 23; refine (k3 w1 q1.bel).mono ?_; rintro e w3 ⟨⟨t3, rfl, ht3⟩, hb3⟩; have q3 := q1.step hb3; have hx3 := q3.box; obtain ⟨ca3, cb3⟩ := q3.c; obtain ⟨fa3, fb3⟩ := q3.f)
        | (go_at_call 22; refine (k1 _).mono ?_; rintro e w1 ⟨rfl, hb1⟩; have q1 := q0.step hb1; have hx1 := q1.box; obtain ⟨ca1, cb1⟩ := q1.c; obtain ⟨fa1, fb1⟩ := q1.f))
      (try simp only [Exit.inBlock, Exit.then])
      refine bodyPost_ret (v := .tuple #[.agg #[.string ty, .string re], .nilIface]) ?_ rfl ⟨rfl, ?_⟩
      · rw [results_cell_tmp rfl]
        go_simp
      · exact (q3.bel.setCell (by simp) _).setCell (by simp) _

set_option maxHeartbeats 1600000 in
set_option maxRecDepth 100000 in
theorem objString (ty id : ByteArray) (w : World) (h1 : ty.size ≤ 10000000) (h2 : id.size ≤ 10000000) :
    Calls Tryf.prog 9 #[.agg #[.string ty, .string id]] w fun e w' => e = .returned (.string (ty ++ ⟨#[58]⟩ ++ id)) ∧ Below w.heap.size w w' := by
  have hb0 : Below w.heap.size w (w.alloc (.cells #[.string ty, .string id] 26)) := (Below.refl _ w).alloc (Nat.le_refl _) _
  go_enter Tryf.func9, Tryf.ntmps9
  go_wp2
  go_ret
  exact ⟨rfl, hb0⟩

end Go.Proofs.Qxb6606413aFmt
