/-
  Seat b6606413aF: zzRefused.
-/
import Derived.Test.Qxb6606413aFmtM2
namespace Go.Proofs.Qxb6606413aFmt
open Go.RowKit Go.Lib

set_option maxHeartbeats 4000000 in
set_option maxRecDepth 100000 in
theorem zzRefused (fm : Bool) (r : Int) (h0 : 0 ≤ r) (h1 : r ≤ 1114111) (w : World) : Calls Tryf.prog 25 #[.int .i32 r, .bool fm] w fun e w' => Says (refP fm r) e ∧ w' = w := by
  have k1 := zzIsSpace r h0 h1 w
  have k2 := zzIsControl r h0 h1 w
  have k3 := zzIsCf r w
  go_enter Tryf.func25, Tryf.ntmps25
  go_wp2_with (first
    | (go_at_call 34; refine k1.mono ?_; rintro e w1 ⟨⟨b1, rfl, hb1⟩, hw1⟩; rw [hw1]; clear hw1 w1; have HB1 := hide hb1; clear hb1)
    | (go_at_call 35; refine k2.mono ?_; rintro e w1 ⟨⟨b2, rfl, hb2⟩, hw1⟩; rw [hw1]; clear hw1 w1; have HB2 := hide hb2; clear hb2)
    | (go_at_call 36; refine k3.mono ?_; rintro e w1 ⟨⟨b3, rfl, hb3⟩, hw1⟩; rw [hw1]; clear hw1 w1; have HB3 := hide hb3; clear hb3))
  all_goals
    go_ret
    refine ⟨⟨_, rfl, ?_⟩, rfl⟩
    unfold refP
    clear k1 k2 k3
    first
      | (simp [*]; done)
      | (unfold Hid at *; simp_all; done)

end Go.Proofs.Qxb6606413aFmt
