/-
  Seat b6606413aF: zzIsCf.
-/
import Derived.Test.Qxb6606413aFmtChain
namespace Go.Proofs.Qxb6606413aFmt
open Go.RowKit Go.Lib

theorem says_end {a : Act} {w : World} {b : Bool} {p : Prop} (hd : a.defers = []) (h2 : a.tmps[2]? = some (.bool b)) (hp : b = true ↔ p) :
    bodyPost Tryf.prog Tryf.f36 (fun e w' => Says p e ∧ w' = w) .ret a w := by
  refine bodyPost_ret (v := .bool b) ?_ hd ⟨⟨b, rfl, hp⟩, rfl⟩
  rw [results_tmp (t := 2) rfl]
  simp [h2]

set_option maxHeartbeats 4000000 in
set_option maxRecDepth 100000 in
theorem zzIsCf (r : Int) (w : World) : Calls Tryf.prog 36 #[.int .i32 r] w fun e w' => Says (cfP r) e ∧ w' = w := by
  go_enter Tryf.func36, Tryf.ntmps36
  go_upto_region 1 with fail
  refine wp_region_lit ?_
  refine clause_head (N := 129) (by decide) (by decide) (by decide) _ rfl rfl rfl ?_
  intro a ha
  refine clause_in rfl rfl (by decide) (by decide) (by decide) (by decide) (by decide) (by decide) (by decide) (by decide) (by decide) ?_ _ ha
  clear ha a
  intro a ha
  refine clause_eq rfl (by decide) (by decide) (by decide) (by decide) (by decide) ?_ _ ha
  clear ha a
  intro a ha
  refine clause_eq rfl (by decide) (by decide) (by decide) (by decide) (by decide) ?_ _ ha
  clear ha a
  intro a ha
  refine clause_eq rfl (by decide) (by decide) (by decide) (by decide) (by decide) ?_ _ ha
  clear ha a
  intro a ha
  refine clause_eq rfl (by decide) (by decide) (by decide) (by decide) (by decide) ?_ _ ha
  clear ha a
  intro a ha
  refine clause_eq rfl (by decide) (by decide) (by decide) (by decide) (by decide) ?_ _ ha
  clear ha a
  intro a ha
  refine clause_eq rfl (by decide) (by decide) (by decide) (by decide) (by decide) ?_ _ ha
  clear ha a
  intro a ha
  refine clause_eq rfl (by decide) (by decide) (by decide) (by decide) (by decide) ?_ _ ha
  clear ha a
  intro a ha
  refine clause_in rfl rfl (by decide) (by decide) (by decide) (by decide) (by decide) (by decide) (by decide) (by decide) (by decide) ?_ _ ha
  clear ha a
  intro a ha
  refine clause_in rfl rfl (by decide) (by decide) (by decide) (by decide) (by decide) (by decide) (by decide) (by decide) (by decide) ?_ _ ha
  clear ha a
  intro a ha
  refine clause_in rfl rfl (by decide) (by decide) (by decide) (by decide) (by decide) (by decide) (by decide) (by decide) (by decide) ?_ _ ha
  clear ha a
  intro a ha
  refine clause_in rfl rfl (by decide) (by decide) (by decide) (by decide) (by decide) (by decide) (by decide) (by decide) (by decide) ?_ _ ha
  clear ha a
  intro a ha
  refine clause_eq rfl (by decide) (by decide) (by decide) (by decide) (by decide) ?_ _ ha
  clear ha a
  intro a ha
  refine clause_in rfl rfl (by decide) (by decide) (by decide) (by decide) (by decide) (by decide) (by decide) (by decide) (by decide) ?_ _ ha
  clear ha a
  intro a ha
  refine clause_eq rfl (by decide) (by decide) (by decide) (by decide) (by decide) ?_ _ ha
  clear ha a
  intro a ha
  refine clause_eq rfl (by decide) (by decide) (by decide) (by decide) (by decide) ?_ _ ha
  clear ha a
  intro a ha
  refine clause_in rfl rfl (by decide) (by decide) (by decide) (by decide) (by decide) (by decide) (by decide) (by decide) (by decide) ?_ _ ha
  clear ha a
  intro a ha
  refine clause_in rfl rfl (by decide) (by decide) (by decide) (by decide) (by decide) (by decide) (by decide) (by decide) (by decide) ?_ _ ha
  clear ha a
  intro a ha
  refine clause_in rfl rfl (by decide) (by decide) (by decide) (by decide) (by decide) (by decide) (by decide) (by decide) (by decide) ?_ _ ha
  clear ha a
  intro a ha
  refine clause_eq rfl (by decide) (by decide) (by decide) (by decide) (by decide) ?_ _ ha
  clear ha a
  intro a ha
  refine clause_in rfl rfl (by decide) (by decide) (by decide) (by decide) (by decide) (by decide) (by decide) (by decide) (by decide) ?_ _ ha
  clear ha a
  intro a ha
  refine clause_end a ha (by decide) ?_
  clear ha a
  intro a hd h2
  rename_i hK
  refine hK _ _ (wp_ret (says_end hd h2 ?_))
  unfold cfP
  simp only [Bool.or_eq_true, Bool.and_eq_true, decide_eq_true_eq, beq_iff_eq]
  omega

end Go.Proofs.Qxb6606413aFmt
