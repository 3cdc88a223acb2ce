/-
  Seat b6609191aD: FnFeedEndSplitsEachStreamAlone: the row and the tied card.
-/
import Derived.Test.Qxb6609191aDoorL8
import Derived.Test.Qxb6609191aDoorCard
namespace Go.Proofs.Qxb6609191aDoor
open Go.ChangeShapes Go.WideShapes Go.ChangeAt Go.RowKit Go.Lib

set_option maxRecDepth 100000 in
set_option maxHeartbeats 1000000 in
theorem lifted8 (os : Os) (started : os.Started) (H : Type) (enc : TypeId × Value → H) :
    ReturnsInHanded {} Tryd.checked os 8 .any (fun w args => (Rows.fnFeedEndSplitsEachStreamAloneSpec.pre enc Tryd.prog Tryd.f8 Rows.fnFeedEndSplitsEachStreamAloneRow.domain false w args ∧ laidMetH Tryd.prog Rows.fnFeedEndSplitsEachStreamAloneRow.laid w) ∧ sizedMet enc Tryd.prog Tryd.f8 (OpenSpec.ofChange Rows.fnFeedEndSplitsEachStreamAloneSpec) false w args)
      (Rows.fnFeedEndSplitsEachStreamAloneSpec.post enc Tryd.prog Tryd.f8 false true false false) := by
  refine handed_laid (C := Tryd.checked) (X := fun w _ => laidMetH Tryd.prog Rows.fnFeedEndSplitsEachStreamAloneRow.laid w) (fun _ _ _ hh h => h.of_heap hh) Tryd.own started (by kernel_rfl) Tryd.func8
    (ChangeSpec.witness_shaped (enc := enc) (C := Tryd.checked) (os := os) (X := fun w _ => laidMetH Tryd.prog Rows.fnFeedEndSplitsEachStreamAloneRow.laid w) false (World.laidAll Tryd.prog os Rows.fnFeedEndSplitsEachStreamAloneRow.laid) #[.slice none 0 0, .bool false, .slice none 0 0, .slice none 0 0] 8 (World.laidAll_os _ _ _)
      (World.shaped_of_ZipB (by kernel_rfl) (by kernel_rfl)) (by kernel_rfl) (by kernel_rfl) (by kernel_rfl)
      (by rw [MakeChecks.laidMetH_plain _ _ _ (by kernel_rfl)]; exact laidMet_laidAll _ (by kernel_rfl) (by kernel_rfl))) ?_
  intro W base args ds gs before hval0 hW hsz0 hL hsh
  have hsz : (DataW.weightsEach Tryd.prog (Tryd.f8.params.toList ++ Rows.fnFeedEndSplitsEachStreamAloneSpec.plain.varTypes Tryd.prog) (ds ++ gs)).all (· ≤ reachBytes) = true := hsz0
  clear hsz0
  have hval : ∀ (j : Nat) t v, Tryd.f8.params[j]? = some t → args[j]? = some v → Value.okWide Tryd.prog W .any base t v := hval0
  have hW' := hW
  obtain ⟨p, q, hA0, hV, rfl, _, _⟩ := hW
  have hA : DataW.TrodAll enc Tryd.prog W 0 (fun _ => true) true Tryd.f8.params.toList args.toList ds p := hA0
  rw [Tryd.params8] at hA hval hsz
  obtain ⟨v0, v1, v2, v3, d0, d1, d2, d3, p0, p1, p2, p3, rfl, rfl, rfl, h0, h1, h2, h3⟩ := trodAll_four hA
  obtain ⟨rfl, rfl⟩ := trodVars_none hV
  obtain ⟨a0, len0, cap0, rfl⟩ := okWide_slice Tryd.underlying22 (hval 0 22 v0 rfl rfl)
  obtain ⟨cr, rfl, rfl, rfl⟩ := open_bool Tryd.underlying4 (hval 1 4 v1 rfl rfl) h1
  obtain ⟨a2, len2, cap2, rfl⟩ := okWide_slice Tryd.underlying22 (hval 2 22 v2 rfl rfl)
  obtain ⟨a3, len3, cap3, rfl⟩ := okWide_slice Tryd.underlying22 (hval 3 22 v3 rfl rfl)
  have h0k := h0
  have h2k := h2
  have h3k := h3
  clear hA0 hval0
  simp only [List.append_nil] at hW'
  have hlt : ∀ x ∈ p0 ++ p2 ++ p3, x.block < W.heap.size := fun x hx => by simpa using hW'.lt x hx
  obtain ⟨l, hl, rl⟩ := opened h0 hsz (j := 0) rfl rfl
  obtain ⟨m, hm, rm⟩ := opened h2 hsz (j := 2) rfl rfl
  obtain ⟨q', hq', rq⟩ := opened h3 hsz (j := 3) rfl rfl
  have hL' : laidMet Tryd.prog Rows.fnFeedEndSplitsEachStreamAloneRow.laid W := by
    rw [MakeChecks.laidMetH_plain _ _ _ (by kernel_rfl)] at hL
    exact hL
  have hT := tabs_of_reads (Lib.laidMet.reads hL' (by simp [Rows.fnFeedEndSplitsEachStreamAloneRow])) (Lib.laidMet.reads hL' (by simp [Rows.fnFeedEndSplitsEachStreamAloneRow]))
  refine (law8 _ _ _ l m q' cr W rl rm rq hl hm hq' ⟨hT, max_of_shape hsh⟩).mono fun e W' ⟨he, hb⟩ => ?_
  subst he
  refine ⟨_, rfl, ⟨_, _, _, [], p0 ++ (p2 ++ p3), [], hW', ?_, ?_, rfl, hb.frame _, fun h => by cases h⟩⟩
  · exact trodAll_mk1 (shut_bool Tryd.underlying4 _)
  · exact trodAll_mk4 (Below.trod Tryd.laidOut (by kernel_rfl) (of_decide_eq_true (by kernel_rfl)) h0k hb (fun x hx => hlt x (List.mem_append_left _ (List.mem_append_left _ hx)))) (shut_bool Tryd.underlying4 _) (Below.trod Tryd.laidOut (by kernel_rfl) (of_decide_eq_true (by kernel_rfl)) h2k hb (fun x hx => hlt x (List.mem_append_left _ (List.mem_append_right _ hx)))) (Below.trod Tryd.laidOut (by kernel_rfl) (of_decide_eq_true (by kernel_rfl)) h3k hb (fun x hx => hlt x (List.mem_append_right _ hx)))

theorem row_holds8 : Rows.FnFeedEndSplitsEachStreamAloneSaid :=
  OpenClaim.holds_of_wide 8 Tryd.f8 rfl rfl rfl rfl rfl rfl rfl ⟨rfl, rfl, rfl, rfl, rfl⟩ rfl rfl rfl rfl rfl (by kernel_rfl) Tryd.func8 (by kernel_rfl)
    (of_decide_eq_true (by kernel_rfl)) (by unfold Func.isWrapper; first | (rw [if_pos (by decide +kernel)]; kernel_rfl) | (rw [if_neg (by decide +kernel)]; exact ⟨rfl, rfl⟩))
    (fun os started H enc _ => lifted8 os started H enc)

theorem proved8 : Rows.FnFeedEndSplitsEachStreamAloneCardSaid :=
  Claim7.holds_tied_plain_at .later [] [.data, .pinned] true (true, "74cb1193ece5c581128bc7d9c3746ca56219c56e1a7e52e0dce030c6fd69a09c") false row_holds8 (fun _ h => by cases h) (by kernel_rfl) (fun _ h => by cases h) fnFeedEndSplitsEachStreamAlone_row_tie rfl ⟨rfl, rfl⟩ (by kernel_rfl) rfl
    (fun f fn hf hfn => by
      obtain rfl : f = 8 := Option.some.inj ((show Tryd.prog.funcNamed Tryd.f8.name = some 8 by kernel_rfl).symm.trans hf) |>.symm
      obtain rfl : fn = Tryd.f8 := (Option.some.inj (Tryd.func8.symm.trans hfn)).symm
      exact ⟨by kernel_rfl, fun j t ht => by
        rw [Tryd.params8] at ht
        have hm : t ∈ [22, 4, 22, 22] := by simpa using Array.mem_of_getElem? ht
        have hall : ([22, 4, 22, 22].all fun u => !Tryd.prog.wantsStandIn u) = true := by kernel_rfl
        exact (show Tryd.prog.wantsStandIn t = false by simpa using List.all_eq_true.1 hall t hm)⟩)
    (by kernel_rfl)

end Go.Proofs.Qxb6609191aDoor
