/-
  Seat b6608953aD: FnMatchesMarshalIsByteEquality: the row and the tied card.
-/
import Derived.Test.Qxb6608953aDoorW9
import Derived.Test.Qxb6608953aDoorTie
import Derived.Test.Qxb6608953aDoorCards
import Derived.ProofKit
import Derived.OpenShut
import Derived.LaidMore
import Derived.Lay
import Derived.SizedLaws
import Derived.SevenTiedAt
import Derived.Stop.Joined
import Derived.Lib.LaidU8T
import Derived.PinnedBridge
namespace Go.Proofs.Qxb6608953aDoor
open Go.ChangeShapes Go.WideShapes Go.ChangeAt Go.RowKit Go.Lib
open Go.ChangeMaps (open_string shut_string)

theorem Tryd.own : ownKnob Tryd.prog.godebug = none := by kernel_rfl
theorem acData : Rows.laid_unicode_utf8_acceptRanges (H := Unit) = acceptData := by kernel_rfl

theorem tabs_of_reads {W : World} (h1 : VarReads Tryd.prog W "unicode/utf8.acceptRanges" Rows.laid_unicode_utf8_acceptRanges) (h5 : VarReads Tryd.prog W "unicode/utf8.first" Rows.laid_unicode_utf8_first) : Lib.Utf8Tabs 0 1 W := by
  rw [acData] at h1
  have h5' : VarReads Tryd.prog W "unicode/utf8.first" firstData := by rw [← Pinned.utf8First_eq]; exact h5
  exact utf8Tabs_of_readsT (ρ := Tryd.lays197_ren) { Tryd.lays197 with } ⟨by kernel_rfl, by kernel_rfl, by kernel_rfl, by kernel_rfl, by kernel_rfl, by kernel_rfl, by kernel_rfl⟩ h5' h1

set_option maxHeartbeats 1600000 in
set_option maxRecDepth 100000 in
theorem law_big (s : ByteArray) (hs : s.size ≤ 140737488355328) (hb : 1048576 < s.size) (w : World) :
    Calls Tryd.prog 5 #[.string s] w fun e w' => e = .returned (.bool true) ∧ Below w.heap.size w w' := by
  have k14 := bytes1 s w hs
  go_enter Tryd.func5, Tryd.ntmps5
  go_wp2_with (go_at_call 14; refine k14.mono ?_; rintro e wz ⟨⟨bz, rfl⟩, hwz⟩; rw [hwz]; clear hwz wz)
  all_goals
    go_ret
    exact ⟨rfl, Below.refl _ _⟩

set_option maxRecDepth 100000 in
set_option maxHeartbeats 1000000 in
theorem lifted (os : Os) (started : os.Started) (H : Type) (enc : TypeId × Value → H) :
    ReturnsInHanded {} Tryd.checked os 5 .any (fun w args => (Rows.fnMatchesMarshalIsByteEqualitySpec.pre enc Tryd.prog Tryd.f5 Rows.fnMatchesMarshalIsByteEqualityRow.domain false w args ∧ laidMetH Tryd.prog Rows.fnMatchesMarshalIsByteEqualityRow.laid w) ∧ sizedMet enc Tryd.prog Tryd.f5 (OpenSpec.ofChange Rows.fnMatchesMarshalIsByteEqualitySpec) false w args)
      (Rows.fnMatchesMarshalIsByteEqualitySpec.post enc Tryd.prog Tryd.f5 false true false false) := by
  refine returnsInHanded_of_change_and (C := Tryd.checked) (X := fun w _ => laidMetH Tryd.prog Rows.fnMatchesMarshalIsByteEqualityRow.laid w) (fun _ _ _ hh h => h.of_heap hh) Tryd.own started (by kernel_rfl) Tryd.func5
    (ChangeSpec.witness_shaped (enc := enc) (C := Tryd.checked) (os := os) (X := fun w _ => laidMetH Tryd.prog Rows.fnMatchesMarshalIsByteEqualityRow.laid w) false (World.laidAll Tryd.prog os Rows.fnMatchesMarshalIsByteEqualityRow.laid) #[.string ⟨#[]⟩] 8 (World.laidAll_os _ _ _)
      (World.shaped_of_ZipB (by kernel_rfl) (by kernel_rfl)) (by kernel_rfl) (by kernel_rfl) (by kernel_rfl)
      (by rw [MakeChecks.laidMetH_plain _ _ _ (by kernel_rfl)]; exact laidMet_laidAll _ (by kernel_rfl) (by kernel_rfl))) ?_
  intro W base args ds gs before hval0 hW hc hsz0 hL _
  have hsz : (DataW.weightsEach Tryd.prog (Tryd.f5.params.toList ++ Rows.fnMatchesMarshalIsByteEqualitySpec.plain.varTypes Tryd.prog) (ds ++ gs)).all (· ≤ reachBytes) = true := hsz0
  clear hsz0
  have hval : ∀ (j : Nat) t v, Tryd.f5.params[j]? = some t → args[j]? = some v → Value.okWide Tryd.prog W .any base t v := hval0
  have hW' := hW
  obtain ⟨p, q, hA0, hV, rfl, _, _⟩ := hW
  have hA : DataW.TrodAll enc Tryd.prog W 0 (fun _ => true) true Tryd.f5.params.toList args.toList ds p := hA0
  rw [Tryd.params5] at hA hval hsz
  obtain ⟨v0, d0, rfl, rfl, h0⟩ := trodAll_one hA
  obtain ⟨rfl, rfl⟩ := trodVars_none hV
  obtain ⟨s, rfl, rfl, rfl, ws⟩ := open_string Tryd.underlying9 (hval 0 9 v0 rfl rfl) h0
  clear hA0 hval0
  have z0 := sized_string hsz (j := 0) rfl rfl
  rw [← Lib.size_eq] at z0
  simp only [reachBytes] at z0
  have hL' : laidMet Tryd.prog Rows.fnMatchesMarshalIsByteEqualityRow.laid W := by
    rw [MakeChecks.laidMetH_plain _ _ _ (by kernel_rfl)] at hL
    exact hL
  have hT := tabs_of_reads (Lib.laidMet.reads hL' (by simp [Rows.fnMatchesMarshalIsByteEqualityRow])) (Lib.laidMet.reads hL' (by simp [Rows.fnMatchesMarshalIsByteEqualityRow]))
  have key : Calls Tryd.prog 5 #[.string s] W fun e w' => e = .returned (.bool true) ∧ Below W.heap.size W w' := by
    by_cases hb : 1048576 < s.size
    · exact law_big s (by omega) hb W
    · exact law_small s (by omega) W hT
  refine key.mono fun e W' ⟨he, hb⟩ => ?_
  subst he
  refine ⟨_, rfl, ⟨_, _, _, [], [], [], hW', ?_, ?_, rfl, hb.frame _, fun h => by cases h⟩⟩
  · exact trodAll_mk1 (shut_bool Tryd.underlying4 _)
  · exact trodAll_mk1 (shut_string Tryd.underlying9 ws)

theorem row_holds : Rows.FnMatchesMarshalIsByteEqualitySaid :=
  OpenClaim.holds_of_wide 5 Tryd.f5 rfl rfl rfl rfl rfl rfl rfl ⟨rfl, rfl, rfl, rfl, rfl⟩ rfl rfl rfl rfl rfl (by kernel_rfl) Tryd.func5 (by kernel_rfl)
    (of_decide_eq_true (by kernel_rfl)) (by unfold Func.isWrapper; first | (rw [if_pos (by decide +kernel)]; kernel_rfl) | (rw [if_neg (by decide +kernel)]; exact ⟨rfl, rfl⟩))
    (fun os started H enc _ => lifted os started H enc)

theorem proved : Rows.FnMatchesMarshalIsByteEqualityCardSaid :=
  Claim7.holds_tied_plain_at .later [] [.data, .pinned] true (true, "7ae132ba16e6468f08996b5bd2895083f40e7813411a468450c6af975e73c69d") false row_holds (fun _ h => by cases h) (by kernel_rfl) (fun _ h => by cases h) fnMatchesMarshalIsByteEquality_row_tie rfl ⟨rfl, rfl⟩ (by kernel_rfl) rfl
    (fun f fn hf hfn => by
      obtain rfl : f = 5 := Option.some.inj ((show Tryd.prog.funcNamed Tryd.f5.name = some 5 by kernel_rfl).symm.trans hf) |>.symm
      obtain rfl : fn = Tryd.f5 := (Option.some.inj (Tryd.func5.symm.trans hfn)).symm
      exact ⟨by kernel_rfl, fun j t ht => by
        rw [Tryd.params5] at ht
        have hm : t ∈ [9] := by simpa using Array.mem_of_getElem? ht
        have hall : ([9].all fun u => !Tryd.prog.wantsStandIn u) = true := by kernel_rfl
        exact (show Tryd.prog.wantsStandIn t = false by simpa using List.all_eq_true.1 hall t hm)⟩)
    (by kernel_rfl)

end Go.Proofs.Qxb6608953aDoor
