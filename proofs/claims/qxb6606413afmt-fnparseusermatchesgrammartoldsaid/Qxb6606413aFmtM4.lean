/-
  Seat b6606413aF: the bound of law 4.
-/
import Derived.Test.Qxb6606413aFmtGram
import Derived.Test.Qxb6606413aFmtW6
namespace Go.Proofs.Qxb6606413aFmt
open Go.RowKit Go.Lib
set_option maxHeartbeats 1600000 in
set_option maxRecDepth 100000 in
theorem bytes2 (fm : Bool) (s : ByteArray) (w : World) (hs : s.size ≤ 140737488355328) :
    Calls Tryf.prog 11 #[.bool fm, .string s] w fun e w' => Bnd True e ∧ w' = w := by
  go_enter Tryf.func11, Tryf.ntmps11
  go_wp2
  all_goals
    go_ret
    exact ⟨⟨_, rfl, fun _ => trivial⟩, rfl⟩
end Go.Proofs.Qxb6606413aFmt
