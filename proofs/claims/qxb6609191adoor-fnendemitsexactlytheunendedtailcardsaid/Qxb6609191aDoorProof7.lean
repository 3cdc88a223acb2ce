/-
  Seat b6609191aD: FnEndEmitsExactlyTheUnendedTail: the row and the tied card.
-/
import Derived.Test.Qxb6609191aDoorL7
import Derived.Test.Qxb6609191aDoorCard
namespace Go.Proofs.Qxb6609191aDoor
open Go.ChangeShapes Go.WideShapes Go.ChangeAt Go.RowKit Go.Lib

set_option maxRecDepth 100000 in
set_option maxHeartbeats 1000000 in
theorem lifted7 (os : Os) (started : os.Started) (H : Type) (enc : TypeId × Value → H) :
    ReturnsInHanded {} Tryd.checked os 7 .any (fun w args => (Rows.fnEndEmitsExactlyTheUnendedTailSpec.pre enc Tryd.prog Tryd.f7 Rows.fnEndEmitsExactlyTheUnendedTailRow.domain false w args ∧ laidMetH Tryd.prog Rows.fnEndEmitsExactlyTheUnendedTailRow.laid w) ∧ sizedMet enc Tryd.prog Tryd.f7 (OpenSpec.ofChange Rows.fnEndEmitsExactlyTheUnendedTailSpec) false w args)
      (Rows.fnEndEmitsExactlyTheUnendedTailSpec.post enc Tryd.prog Tryd.f7 false true false false) := by
  refine handed_laid (C := Tryd.checked) (X := fun w _ => laidMetH Tryd.prog Rows.fnEndEmitsExactlyTheUnendedTailRow.laid w) (fun _ _ _ hh h => h.of_heap hh) Tryd.own started (by kernel_rfl) Tryd.func7
    (ChangeSpec.witness_shaped (enc := enc) (C := Tryd.checked) (os := os) (X := fun w _ => laidMetH Tryd.prog Rows.fnEndEmitsExactlyTheUnendedTailRow.laid w) false (World.laidAll Tryd.prog os Rows.fnEndEmitsExactlyTheUnendedTailRow.laid) #[.slice none 0 0, .bool false, .slice none 0 0] 8 (World.laidAll_os _ _ _)
      (World.shaped_of_ZipB (by kernel_rfl) (by kernel_rfl)) (by kernel_rfl) (by kernel_rfl) (by kernel_rfl)
      (by rw [MakeChecks.laidMetH_plain _ _ _ (by kernel_rfl)]; exact laidMet_laidAll _ (by kernel_rfl) (by kernel_rfl))) ?_
  intro W base args ds gs before hval0 hW hsz0 hL hsh
  have hsz : (DataW.weightsEach Tryd.prog (Tryd.f7.params.toList ++ Rows.fnEndEmitsExactlyTheUnendedTailSpec.plain.varTypes Tryd.prog) (ds ++ gs)).all (· ≤ reachBytes) = true := hsz0
  clear hsz0
  have hval : ∀ (j : Nat) t v, Tryd.f7.params[j]? = some t → args[j]? = some v → Value.okWide Tryd.prog W .any base t v := hval0
  have hW' := hW
  obtain ⟨p, q, hA0, hV, rfl, _, _⟩ := hW
  have hA : DataW.TrodAll enc Tryd.prog W 0 (fun _ => true) true Tryd.f7.params.toList args.toList ds p := hA0
  rw [Tryd.params7] at hA hval hsz
  obtain ⟨v0, v1, v2, d0, d1, d2, p0, p1, p2, rfl, rfl, rfl, h0, h1, h2⟩ := trodAll_three hA
  obtain ⟨rfl, rfl⟩ := trodVars_none hV
  obtain ⟨a0, len0, cap0, rfl⟩ := okWide_slice Tryd.underlying22 (hval 0 22 v0 rfl rfl)
  obtain ⟨cr, rfl, rfl, rfl⟩ := open_bool Tryd.underlying4 (hval 1 4 v1 rfl rfl) h1
  obtain ⟨a2, len2, cap2, rfl⟩ := okWide_slice Tryd.underlying22 (hval 2 22 v2 rfl rfl)
  have h0k := h0
  have h2k := h2
  clear hA0 hval0
  simp only [List.append_nil] at hW'
  have hlt : ∀ x ∈ p0 ++ p2, x.block < W.heap.size := fun x hx => by simpa using hW'.lt x hx
  obtain ⟨l, hl, rl⟩ := opened h0 hsz (j := 0) rfl rfl
  obtain ⟨m, hm, rm⟩ := opened h2 hsz (j := 2) rfl rfl
  have hL' : laidMet Tryd.prog Rows.fnEndEmitsExactlyTheUnendedTailRow.laid W := by
    rw [MakeChecks.laidMetH_plain _ _ _ (by kernel_rfl)] at hL
    exact hL
  have hT := tabs_of_reads (Lib.laidMet.reads hL' (by simp [Rows.fnEndEmitsExactlyTheUnendedTailRow])) (Lib.laidMet.reads hL' (by simp [Rows.fnEndEmitsExactlyTheUnendedTailRow]))
  refine (law7 _ _ l m cr W rl rm hl hm ⟨hT, max_of_shape hsh⟩).mono fun e W' ⟨he, hb⟩ => ?_
  subst he
  refine ⟨_, rfl, ⟨_, _, _, [], p0 ++ p2, [], hW', ?_, ?_, rfl, hb.frame _, fun h => by cases h⟩⟩
  · exact trodAll_mk1 (shut_bool Tryd.underlying4 _)
  · exact trodAll_mk3 (Below.trod Tryd.laidOut (by kernel_rfl) (of_decide_eq_true (by kernel_rfl)) h0k hb (fun x hx => hlt x (List.mem_append_left _ hx))) (shut_bool Tryd.underlying4 _) (Below.trod Tryd.laidOut (by kernel_rfl) (of_decide_eq_true (by kernel_rfl)) h2k hb (fun x hx => hlt x (List.mem_append_right _ hx)))

theorem row_holds7 : Rows.FnEndEmitsExactlyTheUnendedTailSaid :=
  OpenClaim.holds_of_wide 7 Tryd.f7 rfl rfl rfl rfl rfl rfl rfl ⟨rfl, rfl, rfl, rfl, rfl⟩ rfl rfl rfl rfl rfl (by kernel_rfl) Tryd.func7 (by kernel_rfl)
    (of_decide_eq_true (by kernel_rfl)) (by unfold Func.isWrapper; first | (rw [if_pos (by decide +kernel)]; kernel_rfl) | (rw [if_neg (by decide +kernel)]; exact ⟨rfl, rfl⟩))
    (fun os started H enc _ => lifted7 os started H enc)

theorem proved7 : Rows.FnEndEmitsExactlyTheUnendedTailCardSaid :=
  Claim7.holds_tied_plain_at .later [] [.data, .pinned] true (true, "74cb1193ece5c581128bc7d9c3746ca56219c56e1a7e52e0dce030c6fd69a09c") false row_holds7 (fun _ h => by cases h) (by kernel_rfl) (fun _ h => by cases h) fnEndEmitsExactlyTheUnendedTail_row_tie rfl ⟨rfl, rfl⟩ (by kernel_rfl) rfl
    (fun f fn hf hfn => by
      obtain rfl : f = 7 := Option.some.inj ((show Tryd.prog.funcNamed Tryd.f7.name = some 7 by kernel_rfl).symm.trans hf) |>.symm
      obtain rfl : fn = Tryd.f7 := (Option.some.inj (Tryd.func7.symm.trans hfn)).symm
      exact ⟨by kernel_rfl, fun j t ht => by
        rw [Tryd.params7] at ht
        have hm : t ∈ [22, 4, 22] := by simpa using Array.mem_of_getElem? ht
        have hall : ([22, 4, 22].all fun u => !Tryd.prog.wantsStandIn u) = true := by kernel_rfl
        exact (show Tryd.prog.wantsStandIn t = false by simpa using List.all_eq_true.1 hall t hm)⟩)
    (by kernel_rfl)

end Go.Proofs.Qxb6609191aDoor
