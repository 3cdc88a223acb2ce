/-
  Seat b6606413aF: FnParseUserMatchesGrammar: the row and the told and tied card.
-/
import Derived.Test.Qxb6606413aFmtM8
import Derived.Test.Qxb6606413aFmtCard
namespace Go.Proofs.Qxb6606413aFmt
open Go.ChangeShapes Go.WideShapes Go.ChangeAt Go.RowKit Go.Lib
open Go.ChangeMaps (open_string shut_string)
open Go.Extern.Stop Go.Stop Go.Extern

abbrev spec4 : OpenSpec := OpenSpec.ofChange Rows.fnParseUserMatchesGrammarSpec

set_option maxRecDepth 1000000 in
theorem witness_row4 (os : Os) {H : Type} (enc : TypeId × Value → H) :
    spec4.preRow enc Tryf.prog Tryf.f4 Rows.fnParseUserMatchesGrammarRow.domain false Rows.fnParseUserMatchesGrammarRow.laid ((World.laidAll Tryf.prog os Rows.fnParseUserMatchesGrammarRow.laid).forCall (fun _ _ => 0) ⟨#[], #[.bool false, .string ⟨#[]⟩], []⟩).memory #[.bool false, .string ⟨#[]⟩] := by
  have hw : (DataW.whole enc Tryf.prog ((World.laidAll Tryf.prog os Rows.fnParseUserMatchesGrammarRow.laid).forCall (fun _ _ => 0) ⟨#[], #[.bool false, .string ⟨#[]⟩], []⟩).memory Tryf.f4.params.toList spec4.vars false #[Value.bool false, .string ⟨#[]⟩].toList 8).map (fun x => (x.1, x.2.1)) =
      some ([.lit (.bool false), .lit (.string [])], []) := by kernel_rfl
  obtain ⟨⟨x1, x2, x3⟩, hx, hx1⟩ := Option.map_eq_some_iff.1 hw
  simp only [Prod.mk.injEq] at hx1
  obtain ⟨rfl, rfl⟩ := hx1
  exact OpenSpec.preRow_of_cond 8 hx (by kernel_rfl) (fun k hk => by cases hk) (by kernel_rfl)
    (by rw [MakeChecks.laidMetH_plain _ _ _ (by kernel_rfl)]; exact laidMet_laidAll _ (by kernel_rfl) (by kernel_rfl))

set_option maxRecDepth 100000 in
set_option maxHeartbeats 4000000 in
theorem lifted4 (os : Os) (started : os.Started) (H : Type) (enc : TypeId × Value → H) :
    ReturnsInTold none {} Tryf.checked os 4 .any Input.okWide (spec4.preRow enc Tryf.prog Tryf.f4 Rows.fnParseUserMatchesGrammarRow.domain false Rows.fnParseUserMatchesGrammarRow.laid) (fun F => (spec4.at F).post enc Tryf.prog Tryf.f4 false true false false) (aloneAtReturn Tryf.prog) nothingAlways := by
  refine returnsInTold_of_row (C := Tryf.checked) (s := spec4) (by kernel_rfl) Tryf.own started (by kernel_rfl) Tryf.func4
    (witness_shaped (World.laidAll Tryf.prog os Rows.fnParseUserMatchesGrammarRow.laid) #[.bool false, .string ⟨#[]⟩] (World.laidAll_os _ _ _) (World.shaped_of_ZipB (by kernel_rfl) (by kernel_rfl)) (by kernel_rfl) (witness_row4 os enc)) ?_
  intro F W base args ds gs before _ hF hval0 hW _ _ hsz0 hL0 _
  have hsz : (DataW.weightsEach Tryf.prog (Tryf.f4.params.toList ++ spec4.bare.plain.varTypes Tryf.prog) (ds ++ gs)).all (· ≤ reachBytes) = true := hsz0
  have hval : ∀ (j : Nat) t v, Tryf.f4.params[j]? = some t → args[j]? = some v → Value.okWide Tryf.prog W .any base t v := hval0
  have hW' := hW
  obtain ⟨p, q, hA0, hV0, rfl, _, _⟩ := hW
  have hA : DataW.TrodAll enc Tryf.prog W 0 (fun _ => true) true Tryf.f4.params.toList args.toList ds p := hA0
  have hV : DataW.TrodVars enc Tryf.prog W (fun _ => true) [] gs q := hV0
  obtain ⟨rfl, rfl⟩ := trodVars_none hV
  rw [Tryf.params4] at hA hval hsz
  obtain ⟨v0, v1, d0, d1, p0, p1, rfl, rfl, rfl, h0, h1⟩ := trodAll_two hA
  obtain ⟨fm, rfl, rfl, rfl⟩ := open_bool Tryf.underlying4 (hval 0 4 v0 rfl rfl) h0
  obtain ⟨s1, rfl, rfl, rfl, ws1⟩ := open_string Tryf.underlying9 (hval 1 9 v1 rfl rfl) h1
  have z1 := sized_string hsz (j := 1) rfl rfl
  rw [← Lib.size_eq] at z1
  simp only [reachBytes] at z1
  clear hA0 hval0 hsz0 hV0
  have hL : laidMet Tryf.prog Rows.fnParseUserMatchesGrammarRow.laid W := by
    rw [MakeChecks.laidMetH_plain _ _ _ (by kernel_rfl)] at hL0
    exact hL0
  have hT : Tabs W := tabs_of_reads (Lib.laidMet.reads hL (by simp [Rows.fnParseUserMatchesGrammarRow])) (Lib.laidMet.reads hL (by simp [Rows.fnParseUserMatchesGrammarRow])) (Lib.laidMet.reads hL (by simp [Rows.fnParseUserMatchesGrammarRow])) (Lib.laidMet.reads hL (by simp [Rows.fnParseUserMatchesGrammarRow])) (Lib.laidMet.reads hL (by simp [Rows.fnParseUserMatchesGrammarRow]))
  refine (law4 F fm s1 W hF hT (by omega)).mono ?_
  rintro e W' ⟨rfl, bel⟩
  refine ⟨_, rfl, _, _, _, [], [], [], hW', ?_, ?_, ?_, bel.frame _, fun h => by cases h⟩
  · exact trodAll_mk1 (shut_bool Tryf.underlying4 _)
  · exact trodAll_mk2 (shut_bool Tryf.underlying4 _) (shut_string Tryf.underlying9 ws1)
  · rfl

theorem proved4 : Rows.FnParseUserMatchesGrammarToldSaid :=
  Claim7.holds_of_told_tied_any_at .later 4 Tryf.f4 "fmt.errorf" ["fmt.Sprintf"] [] _ _ _ _ _ (by kernel_rfl) rfl rfl rfl Tryf.laidOut (by kernel_rfl) rfl ⟨rfl, rfl, rfl, rfl, rfl, rfl, rfl⟩ rfl rfl (by kernel_rfl) (by kernel_rfl) Tryf.func4 (by kernel_rfl)
    (of_decide_eq_true (by kernel_rfl)) (of_decide_eq_true (by kernel_rfl)) Tryf.stops.symm rfl Tryf.stopKnobs.symm (by kernel_rfl)
    (by kernel_rfl) (by kernel_rfl) (by kernel_rfl) (by kernel_rfl) (by kernel_rfl) (by kernel_rfl) (by kernel_rfl) (by kernel_rfl) (by kernel_rfl) rfl (by kernel_rfl) rfl rfl
    rfl rfl
    rfl (by kernel_rfl) (by kernel_rfl) (by kernel_rfl) (by decide) (by kernel_rfl) fnParseUserMatchesGrammar_row_tie
    (OpenClaim.moreEntering_of (by kernel_rfl) (by kernel_rfl) (by kernel_rfl) (by kernel_rfl) (by kernel_rfl) (by kernel_rfl) (by kernel_rfl) (by kernel_rfl) (by kernel_rfl) (by kernel_rfl))
    ⟨_, WideRow.started_initial, Tryf.quiet _⟩
    (fun os started _ H enc _ => lifted4 os started H enc)

end Go.Proofs.Qxb6606413aFmt
