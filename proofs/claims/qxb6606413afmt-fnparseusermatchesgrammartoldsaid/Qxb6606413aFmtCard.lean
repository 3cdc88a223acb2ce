/-
  Seat b6606413aF: what the three cards share.
-/
import Derived.Test.Qxb6606413aFmtLaid
import Derived.Test.Qxb6606413aFmtCards
import Derived.Stop.JoinedTold
import Derived.Stop.Joined
import Derived.SevenTiedAt
import Derived.ChangeVars
namespace Go.Proofs.Qxb6606413aFmt
open Go.ChangeShapes Go.WideShapes Go.ChangeAt Go.RowKit Go.Lib
open Go.Extern.Stop Go.Stop Go.Extern

theorem Tryf.own : ownKnob Tryf.prog.godebug = none := by kernel_rfl
theorem Tryf.laidOut : laidOutB Tryf.pinned.checked.prog = true := by kernel_rfl
theorem Tryf.stops : Tryf.pinned.checked.prog.stops = ["fmt.errorf", "fmt.Sprintf"] := by kernel_rfl
theorem Tryf.stopKnobs : Tryf.pinned.checked.prog.stopKnobs = [] := by kernel_rfl
theorem Tryf.quiet (os : Os) : Stop.quiet Tryf.pinned.checked.prog os := by
  intro k hk
  rw [Tryf.stopKnobs] at hk
  cases hk

set_option maxRecDepth 100000 in
/-- There is an input that fits, on a tape that F answers. -/
theorem witness_shaped {H : Type} {enc : TypeId × Value → H} {os : Os} {f : FuncId} {fn : Func} {s : OpenSpec} {conds : List PathCond} {apart : Bool} {laid : List (String × DataW Unit)} (w0 : World) (args : Array Value) (hos : w0.os = os)
    (hsh : (w0.forCall (fun _ _ => 0) ⟨#[], args, []⟩).Shaped Tryf.prog)
    (hok : Input.okWideB Tryf.prog (w0.forCall (fun _ _ => 0) ⟨#[], args, []⟩) f ⟨#[], args, []⟩ = true)
    (hrow : s.preRow enc Tryf.prog fn conds apart laid (w0.forCall (fun _ _ => 0) ⟨#[], args, []⟩).memory args) (F : Stop.Interp) :
    ∃ (w : World) (tape : Tape) (i : Input), w.os = os ∧ (w.forCall tape i).Shaped Tryf.prog ∧ i.vars = [] ∧ Input.okWide Tryf.prog (w.forCall tape i) .any w.heap.size f i ∧
      s.preRow enc Tryf.prog fn conds apart laid (w.forCall tape i).memory i.args ∧ ({} : Assume).holds Tryf.prog (lone (Frame.enter Tryf.prog f i.args .normal) [] (w.forCall tape i)) ∧ F.answers tape :=
  ⟨w0, F.over fun _ _ => 0, ⟨#[], args, []⟩, hos, hsh, (Input.okWide_of_okWideB (base := 0) hok).1, (Input.okWide_of_okWideB hok).2, hrow, by
    simp only [Assume.holds]
    exact ⟨by simp, by simp, by simp, by simp, by simp⟩, F.over_answers _⟩

/-- The one variable that the specification lists reads as it did. -/
theorem strict_kept {H : Type} {enc : TypeId × Value → H} {W W' : World} {gs : List (DataW H)} {ps : List MemPlace} {sp sp' : Nat → Bool}
    (h : DataW.TrodVars enc Tryf.prog W sp ["example.com/access-by-relation/access-by-relation/tuple.strict"] gs ps) (hb : Below W.heap.size W W') :
    DataW.TrodVars enc Tryf.prog W' sp' ["example.com/access-by-relation/access-by-relation/tuple.strict"] gs ps := by
  obtain ⟨g, t, cs, fuel, d, p, rfl, hg, hty, hvar, hd, rfl⟩ := trodVars_one h
  obtain rfl : (0 : Nat) = g := Option.some.inj ((show Tryf.prog.globalNamed "example.com/access-by-relation/access-by-relation/tuple.strict" = some 0 by kernel_rfl).symm.trans hg)
  obtain rfl : (42 : Nat) = t := Option.some.inj ((show (Tryf.prog.globals[0]?).map (·.type) = some 42 by kernel_rfl).symm.trans hty)
  have hlt : 0 < W.heap.size := by
    rcases Nat.lt_or_ge 0 W.heap.size with h0 | h0
    · exact h0
    · unfold World.var? at hvar
      rw [hg] at hvar
      simp [Array.getElem?_eq_none h0] at hvar
  have hvar' : W'.var? Tryf.prog "example.com/access-by-relation/access-by-relation/tuple.strict" = some cs := by
    unfold World.var? at hvar ⊢
    rw [hg] at hvar ⊢
    simp only [Option.bind_some] at hvar ⊢
    rw [hb.block 0 hlt]
    exact hvar
  refine trodVars_mk1 (fuel := fuel) hg hty hvar' ?_
  have hc42 : Tryf.prog.cellsOf 42 = 1 := by kernel_rfl
  have hc4 : Tryf.prog.cellsOf 4 = 1 := by kernel_rfl
  obtain ⟨xs, n, hfu, hx, hlen, hxl, hall⟩ := DataW.trod_struct Tryf.underlying42 hd
  have h0 := hall 0 _ rfl
  rw [hc42] at hlen
  obtain ⟨x0, rfl⟩ := List.length_eq_one_iff.1 hxl
  have h0' : DataW.trod enc Tryf.prog W 0 sp true n 4 (List.take (Tryf.prog.cellsOf 4) (List.drop 0 cs.toList)) = some x0 := h0
  obtain ⟨b, hcs, _⟩ := DataW.trod_bool Tryf.underlying4 h0'
  rw [hc4, List.drop_zero, List.take_of_length_le (by omega)] at hcs
  rw [← hd, hcs]
  subst hfu
  cases n with
  | zero => simp [DataW.trod, Tryf.underlying42]
  | succ m => simp [DataW.trod, Tryf.underlying42, Tryf.underlying4, hc4, hc42]

end Go.Proofs.Qxb6606413aFmt
