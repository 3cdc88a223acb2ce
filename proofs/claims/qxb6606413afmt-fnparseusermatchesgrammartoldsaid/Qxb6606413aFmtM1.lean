/-
  Seat b6606413aF: the law's own sets: zzIsSpace, zzIsControl, zzIsCf.
-/
import Derived.Test.Qxb6606413aFmtRefuse
import Derived.Test.Qxb6606413aFmtW4
import Derived.BigQuiet
namespace Go.Proofs.Qxb6606413aFmt
open Go.RowKit Go.Lib

/-- The call has answered whether p holds. -/
def Says (p : Prop) (e : Ending) : Prop := ∃ b : Bool, e = .returned (.bool b) ∧ (b = true ↔ p)

def spP (r : Int) : Prop := r = 32 ∨ (9 ≤ r ∧ r ≤ 13) ∨ r = 133 ∨ r = 160 ∨ r = 5760 ∨ (8192 ≤ r ∧ r ≤ 8202) ∨ r = 8232 ∨ r = 8233 ∨ r = 8239 ∨ r = 8287 ∨ r = 12288
def ctP (r : Int) : Prop := (0 ≤ r ∧ r < 32) ∨ (127 ≤ r ∧ r ≤ 159)

set_option maxHeartbeats 4000000 in
set_option maxRecDepth 100000 in
theorem zzIsControl (r : Int) (h0 : 0 ≤ r) (h1 : r ≤ 1114111) (w : World) : Calls Tryf.prog 35 #[.int .i32 r] w fun e w' => Says (ctP r) e ∧ w' = w := by
  go_enter Tryf.func35, Tryf.ntmps35
  go_wp2
  all_goals
    go_ret
    refine ⟨⟨_, rfl, ?_⟩, rfl⟩
    unfold ctP
    simp
    try omega

set_option maxHeartbeats 8000000 in
set_option maxRecDepth 100000 in
theorem zzIsSpace (r : Int) (h0 : 0 ≤ r) (h1 : r ≤ 1114111) (w : World) : Calls Tryf.prog 34 #[.int .i32 r] w fun e w' => Says (spP r) e ∧ w' = w := by
  go_enter Tryf.func34, Tryf.ntmps34
  go_wp2
  all_goals
    go_ret
    refine ⟨⟨_, rfl, ?_⟩, rfl⟩
    unfold spP
    first
      | (simp only [true_iff] at *; omega)
      | (simp; omega)

/-- The rune is refused. -/
def refP (fm : Bool) (r : Int) : Prop := r = 58 ∨ r = 35 ∨ r = 42 ∨ spP r ∨ ctP r ∨ (fm = false ∧ cfP r)

theorem sp_eq (n : Nat) : isSpaceZ (n : Int) = true ↔ spP n := by
  rw [isSpaceZ_nat]
  unfold isSpaceR spP
  simp only [Bool.or_eq_true, Bool.and_eq_true, decide_eq_true_eq, beq_iff_eq]
  omega

theorem bad_iff (fm : Bool) (n : Nat) (hn : n ≤ 1114111) : bad fm (n : Int) = true ↔ refP fm n := by
  have h1 := sp_eq n
  have h2 := ctl_eq n
  have h3 := cf_eq n hn
  unfold bad refP ctP
  rw [h2]
  simp only [Bool.or_eq_true, Bool.and_eq_true, beq_iff_eq, decide_eq_true_eq, Bool.not_eq_true', h1, h3]
  constructor
  · rintro (((((h | h) | h) | h) | h) | h)
    · exact .inl h
    · exact .inr (.inl h)
    · exact .inr (.inr (.inl h))
    · exact .inr (.inr (.inr (.inl h)))
    · exact .inr (.inr (.inr (.inr (.inl (by omega)))))
    · exact .inr (.inr (.inr (.inr (.inr h))))
  · rintro (h | h | h | h | h | h)
    · exact .inl (.inl (.inl (.inl (.inl h))))
    · exact .inl (.inl (.inl (.inl (.inr h))))
    · exact .inl (.inl (.inl (.inr h)))
    · exact .inl (.inl (.inr h))
    · exact .inl (.inr (by omega))
    · exact .inr h

end Go.Proofs.Qxb6606413aFmt
