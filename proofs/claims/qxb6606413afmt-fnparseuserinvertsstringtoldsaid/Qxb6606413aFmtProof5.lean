/-
  Seat b6606413aF: FnParseUserInvertsString: the row and the told and tied card.
-/
import Derived.Test.Qxb6606413aFmtW7
import Derived.Test.Qxb6606413aFmtCard
namespace Go.Proofs.Qxb6606413aFmt
open Go.ChangeShapes Go.WideShapes Go.ChangeAt Go.RowKit Go.Lib
open Go.ChangeMaps (open_string shut_string)
open Go.Extern.Stop Go.Stop Go.Extern

abbrev spec5 : OpenSpec := OpenSpec.ofChange Rows.fnParseUserInvertsStringSpec

set_option maxRecDepth 1000000 in
theorem witness_row5 (os : Os) {H : Type} (enc : TypeId × Value → H) :
    spec5.preRow enc Tryf.prog Tryf.f5 Rows.fnParseUserInvertsStringRow.domain false Rows.fnParseUserInvertsStringRow.laid ((World.laidAll Tryf.prog os Rows.fnParseUserInvertsStringRow.laid).forCall (fun _ _ => 0) ⟨#[], #[.string ⟨#[]⟩, .string ⟨#[]⟩, .string ⟨#[]⟩], []⟩).memory #[.string ⟨#[]⟩, .string ⟨#[]⟩, .string ⟨#[]⟩] := by
  have hw : (DataW.whole enc Tryf.prog ((World.laidAll Tryf.prog os Rows.fnParseUserInvertsStringRow.laid).forCall (fun _ _ => 0) ⟨#[], #[.string ⟨#[]⟩, .string ⟨#[]⟩, .string ⟨#[]⟩], []⟩).memory Tryf.f5.params.toList spec5.vars false #[Value.string ⟨#[]⟩, .string ⟨#[]⟩, .string ⟨#[]⟩].toList 8).map (fun x => (x.1, x.2.1)) =
      some ([.lit (.string []), .lit (.string []), .lit (.string [])], [.agg [.lit (.bool false)]]) := by kernel_rfl
  obtain ⟨⟨x1, x2, x3⟩, hx, hx1⟩ := Option.map_eq_some_iff.1 hw
  simp only [Prod.mk.injEq] at hx1
  obtain ⟨rfl, rfl⟩ := hx1
  exact OpenSpec.preRow_of_cond 8 hx (by kernel_rfl) (fun k hk => by cases hk) (by kernel_rfl)
    (by rw [MakeChecks.laidMetH_plain _ _ _ (by kernel_rfl)]; exact laidMet_laidAll _ (by kernel_rfl) (by kernel_rfl))

set_option maxRecDepth 100000 in
set_option maxHeartbeats 4000000 in
theorem lifted5 (os : Os) (started : os.Started) (H : Type) (enc : TypeId × Value → H) :
    ReturnsInTold none {} Tryf.checked os 5 .any Input.okWide (spec5.preRow enc Tryf.prog Tryf.f5 Rows.fnParseUserInvertsStringRow.domain false Rows.fnParseUserInvertsStringRow.laid) (fun F => (spec5.at F).post enc Tryf.prog Tryf.f5 false true false false) (aloneAtReturn Tryf.prog) nothingAlways := by
  refine returnsInTold_of_row (C := Tryf.checked) (s := spec5) (by kernel_rfl) Tryf.own started (by kernel_rfl) Tryf.func5
    (witness_shaped (World.laidAll Tryf.prog os Rows.fnParseUserInvertsStringRow.laid) #[.string ⟨#[]⟩, .string ⟨#[]⟩, .string ⟨#[]⟩] (World.laidAll_os _ _ _) (World.shaped_of_ZipB (by kernel_rfl) (by kernel_rfl)) (by kernel_rfl) (witness_row5 os enc)) ?_
  intro F W base args ds gs before _ hF hval0 hW _ _ hsz0 hL0 _
  have hsz : (DataW.weightsEach Tryf.prog (Tryf.f5.params.toList ++ spec5.bare.plain.varTypes Tryf.prog) (ds ++ gs)).all (· ≤ reachBytes) = true := hsz0
  have hval : ∀ (j : Nat) t v, Tryf.f5.params[j]? = some t → args[j]? = some v → Value.okWide Tryf.prog W .any base t v := hval0
  have hW' := hW
  obtain ⟨p, q, hA0, hV0, rfl, _, _⟩ := hW
  have hA : DataW.TrodAll enc Tryf.prog W 0 (fun _ => true) true Tryf.f5.params.toList args.toList ds p := hA0
  have hV : DataW.TrodVars enc Tryf.prog W (fun _ => true) ["example.com/access-by-relation/access-by-relation/tuple.strict"] gs q := hV0
  obtain ⟨g1, rfl⟩ : ∃ g1, gs = [g1] := by
    obtain ⟨_, _, _, _, d, _, h, _⟩ := trodVars_one hV
    exact ⟨d, h⟩
  rw [Tryf.params5] at hA hval hsz
  obtain ⟨v0, v1, v2, d0, d1, d2, p0, p1, p2, rfl, rfl, rfl, h0, h1, h2⟩ := trodAll_three hA
  obtain ⟨s0, rfl, rfl, rfl, ws0⟩ := open_string Tryf.underlying9 (hval 0 9 v0 rfl rfl) h0
  obtain ⟨s1, rfl, rfl, rfl, ws1⟩ := open_string Tryf.underlying9 (hval 1 9 v1 rfl rfl) h1
  obtain ⟨s2, rfl, rfl, rfl, ws2⟩ := open_string Tryf.underlying9 (hval 2 9 v2 rfl rfl) h2
  have z0 := sized_string hsz (j := 0) rfl rfl
  have z1 := sized_string hsz (j := 1) rfl rfl
  have z2 := sized_string hsz (j := 2) rfl rfl
  rw [← Lib.size_eq] at z0 z1 z2
  simp only [reachBytes] at z0 z1 z2
  clear hA0 hval0 hsz0 hV0
  have hL : laidMet Tryf.prog Rows.fnParseUserInvertsStringRow.laid W := by
    rw [MakeChecks.laidMetH_plain _ _ _ (by kernel_rfl)] at hL0
    exact hL0
  have hT : Tabs W := tabs_of_reads (Lib.laidMet.reads hL (by simp [Rows.fnParseUserInvertsStringRow])) (Lib.laidMet.reads hL (by simp [Rows.fnParseUserInvertsStringRow])) (Lib.laidMet.reads hL (by simp [Rows.fnParseUserInvertsStringRow])) (Lib.laidMet.reads hL (by simp [Rows.fnParseUserInvertsStringRow])) (Lib.laidMet.reads hL (by simp [Rows.fnParseUserInvertsStringRow]))
  have hv := strict_of_reads (Lib.laidMet.reads hL (by simp [Rows.fnParseUserInvertsStringRow]))
  have hg : 0 < W.heap.size := World.block_lt_of_cell? _ _ hv
  refine (law5 F s0 s1 s2 W hF hT hv hg (by omega) (by omega) (by omega)).mono ?_
  rintro e W' ⟨rfl, bel⟩
  refine ⟨_, rfl, _, _, _, [], [], q, hW', ?_, ?_, ?_, bel.frame _, fun h => by cases h⟩
  · exact trodAll_mk1 (shut_bool Tryf.underlying4 _)
  · exact trodAll_mk3 (shut_string Tryf.underlying9 ws0) (shut_string Tryf.underlying9 ws1) (shut_string Tryf.underlying9 ws2)
  · exact strict_kept hV bel

theorem proved5 : Rows.FnParseUserInvertsStringToldSaid :=
  Claim7.holds_of_told_tied_any_at .later 5 Tryf.f5 "fmt.errorf" ["fmt.Sprintf"] [] _ _ _ _ _ (by kernel_rfl) rfl rfl rfl Tryf.laidOut (by kernel_rfl) rfl ⟨rfl, rfl, rfl, rfl, rfl, rfl, rfl⟩ rfl rfl (by kernel_rfl) (by kernel_rfl) Tryf.func5 (by kernel_rfl)
    (of_decide_eq_true (by kernel_rfl)) (of_decide_eq_true (by kernel_rfl)) Tryf.stops.symm rfl Tryf.stopKnobs.symm (by kernel_rfl)
    (by kernel_rfl) (by kernel_rfl) (by kernel_rfl) (by kernel_rfl) (by kernel_rfl) (by kernel_rfl) (by kernel_rfl) (by kernel_rfl) (by kernel_rfl) rfl (by kernel_rfl) rfl rfl
    rfl rfl
    rfl (by kernel_rfl) (by kernel_rfl) (by kernel_rfl) (by decide) (by kernel_rfl) fnParseUserInvertsString_row_tie
    (OpenClaim.moreEntering_of (by kernel_rfl) (by kernel_rfl) (by kernel_rfl) (by kernel_rfl) (by kernel_rfl) (by kernel_rfl) (by kernel_rfl) (by kernel_rfl) (by kernel_rfl) (by kernel_rfl))
    ⟨_, WideRow.started_initial, Tryf.quiet _⟩
    (fun os started _ H enc _ => lifted5 os started H enc)

end Go.Proofs.Qxb6606413aFmt
