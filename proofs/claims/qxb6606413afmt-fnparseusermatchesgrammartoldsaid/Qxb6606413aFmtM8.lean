/-
  Seat b6606413aF: FnParseUserMatchesGrammar.
-/
import Derived.Test.Qxb6606413aFmtM7
import Derived.Test.Qxb6606413aFmtM4
namespace Go.Proofs.Qxb6606413aFmt
open Go.RowKit Go.Lib
open Go.Extern.Stop Go.Stop Go.Extern

/-- The worlds on the law's road: what was there before, the block of what was read. -/
structure Rd4 (w : World) (N : Nat) (cs : Array Value) (wn : World) : Prop where
  bel : Below w.heap.size w wn
  got : wn.heap[N]? = some (.cells cs 24)
  lt : N < wn.heap.size

theorem Rd4.start {w w2 : World} (h : Below w.heap.size w w2) (cs : Array Value) : Rd4 w w2.heap.size cs (w2.alloc (.cells cs 24)) :=
  ⟨bstep h ((Below.refl _ _).alloc (Nat.le_refl _) _), heap_alloc_new w2 _, by simp⟩
theorem Rd4.step {w a b : World} {N : Nat} {cs : Array Value} (h : Rd4 w N cs a) (k : Below a.heap.size a b) : Rd4 w N cs b :=
  ⟨bstep h.bel k, by rw [k.block _ h.lt]; exact h.got, Nat.lt_of_lt_of_le h.lt k.size⟩
theorem Rd4.next {w a : World} {N : Nat} {cs : Array Value} (h : Rd4 w N cs a) (b : Obj) : Rd4 w N cs (a.alloc b) :=
  h.step ((Below.refl _ _).alloc (Nat.le_refl _) _)
theorem Rd4.c {w a : World} {x y z : ByteArray} {N : Nat} (h : Rd4 w N #[.string x, .string y, .string z] a) : a.cell? ⟨N, 0, none⟩ = some (.string x) ∧ a.cell? ⟨N, 1, none⟩ = some (.string y) ∧ a.cell? ⟨N, 2, none⟩ = some (.string z) := by
  simp [World.cell?, h.got]

set_option maxHeartbeats 4000000 in
set_option maxRecDepth 100000 in
theorem law4 (F : Interp) (fm : Bool) (s : ByteArray) (w : World) (hF : F.told.answers w.tape) (hT : Tabs w) (hs : s.size ≤ 140737488355328) :
    Calls Tryf.prog 4 #[.bool fm, .string s] w fun e w' => e = .returned (.bool true) ∧ Below w.heap.size w w' := by
  have k11 := bytes2 fm s w hs
  by_cases hsz : s.size ≤ 1048576
  case neg =>
    go_enter Tryf.func4, Tryf.ntmps4
    go_wp2_with (go_at_call 11; refine k11.mono ?_; rintro e wz ⟨⟨bz, rfl, hbz⟩, hwz⟩; rw [hwz]; clear hwz wz)
    all_goals
      go_ret
      exact ⟨rfl, Below.refl _ _⟩
  have k12 := zzParseUser F fm s w hF hT (by omega)
  have k13 := fun wn => zzModelUser s fm hsz wn
  generalize bef 58 s = b1 at *
  generalize bef 35 (aft 58 s) = b2 at *
  generalize aft 35 (aft 58 s) = b3 at *
  generalize puOK fm s = ok at *
  cases ok with
  | false =>
    go_enter Tryf.func4, Tryf.ntmps4
    go_wp2_with (first
      | (go_at_call 11; refine k11.mono ?_; rintro e wz ⟨⟨bz, rfl, hbz⟩, hwz⟩; rw [hwz]; clear hwz wz)
      | (go_at_call 12; refine k12.mono ?_; rintro e w2 ⟨⟨a2, rfl⟩, hb2⟩; have r2 := Rd4.start hb2 #[.string ⟨#[]⟩, .string ⟨#[]⟩, .string ⟨#[]⟩])
      | (go_at_call 13; refine (k13 _).mono ?_; rintro e w3 ⟨he3, hb3⟩; have he3' : e = .returned (.tuple #[.string ⟨#[]⟩, .string ⟨#[]⟩, .string ⟨#[]⟩, .bool false]) := he3; subst he3'; clear he3; have r3 := r2.step hb3; have r4 := r3.next (.cells #[.string ⟨#[]⟩, .string ⟨#[]⟩, .string ⟨#[]⟩] 24); obtain ⟨ga, gb', gc⟩ := r4.c))
    all_goals
      go_ret
      first
        | exact ⟨rfl, Below.refl _ _⟩
        | exact ⟨rfl, r4.bel⟩
  | true =>
    go_enter Tryf.func4, Tryf.ntmps4
    go_wp2_with (first
      | (go_at_call 11; refine k11.mono ?_; rintro e wz ⟨⟨bz, rfl, hbz⟩, hwz⟩; rw [hwz]; clear hwz wz)
      | (go_at_call 12; refine k12.mono ?_; rintro e w2 ⟨he2, hb2⟩; have he2' : e = .returned (.tuple #[.agg #[.string b1, .string b2, .string b3], .nilIface]) := he2; subst he2'; clear he2; have r2 := Rd4.start hb2 #[.string b1, .string b2, .string b3])
      | (go_at_call 13; refine (k13 _).mono ?_; rintro e w3 ⟨he3, hb3⟩; have he3' : e = .returned (.tuple #[.string b1, .string b2, .string b3, .bool true]) := he3; subst he3'; clear he3; have r3 := r2.step hb3; have r4 := r3.next (.cells #[.string b1, .string b2, .string b3] 24); obtain ⟨ga, gb', gc⟩ := r4.c))
    all_goals
      go_ret
      first
        | exact ⟨rfl, Below.refl _ _⟩
        | exact ⟨rfl, r4.bel⟩

end Go.Proofs.Qxb6606413aFmt
