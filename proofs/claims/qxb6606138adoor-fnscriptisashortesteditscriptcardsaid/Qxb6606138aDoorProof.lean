import Derived.Test.Qxb6606138aDoorLaw
import Derived.Test.Qxb6606138aDoorTie
import Derived.Test.Qxb6606138aDoorCards
import Derived.ProofKit
import Derived.OpenShut
import Derived.LaidMore
import Derived.Lay
import Derived.SizedLaws
import Derived.SevenTiedAt
import Derived.Stop.Joined
namespace Go.Proofs.Qxb6606138aDoor
open Go.ChangeShapes Go.WideShapes Go.ChangeAt Go.RowKit

theorem Tryd.own : ownKnob Tryd.prog.godebug = none := by kernel_rfl
theorem Tryd.laidOut : laidOutB Tryd.prog = true := by kernel_rfl
theorem Tryd.cells9 : Tryd.prog.cellsOf 9 = 1 := by kernel_rfl
theorem Tryd.bytes9 : Tryd.prog.bytesOf 9 = 16 := by kernel_rfl

theorem mem_strs {H : Type} (P : Program) (e : TypeId) (ss : List ByteArray) {s : ByteArray} (h : s ∈ ss) : s.size ∈ DataW.weightsAll P e (strs (H := H) ss) := by
  induction ss with
  | nil => cases h
  | cons t ss ih =>
    simp only [strs, List.map_cons, DataW.weightsAll, DataW.weights, List.mem_append]
    rcases List.mem_cons.1 h with rfl | h
    · left; simp
    · right; exact ih h

theorem strs_sized {H : Type} {P : Program} {ts : List TypeId} {ds : List (DataW H)} (h : (DataW.weightsEach P ts ds).all (· ≤ reachBytes) = true) {j : Nat} {t e : TypeId} {ss sp : List ByteArray} (ht : ts[j]? = some t) (hd : ds[j]? = some (.slice (strs ss) (strs sp))) (hu : P.underlying t = some (.slice e)) :
    ∀ s ∈ ss, s.size ≤ 140737488355328 := by
  intro s hs
  have := List.all_eq_true.1 h s.size (DataW.weights_mem_each ht hd _ (by
    simp only [DataW.weights, hu, List.mem_cons, List.mem_append]
    exact Or.inr (Or.inl (mem_strs P e ss hs))))
  have := of_decide_eq_true this
  simp only [reachBytes] at this
  omega

/-- What the row's opening gives of a slice of strings. -/
structure Opened (W : World) (a0 : Option Addr) (len : Nat) (ss : List ByteArray) : Prop where
  length : ss.length = len
  small : len ≤ 140737488355328
  sized : ∀ i, i < len → (ss.getD i ByteArray.empty).size ≤ 140737488355328
  none0 : a0 = none → len = 0
  reads : Rd W a0 len (sv ss)

theorem opened {H : Type} {enc : TypeId × Value → H} {W : World} {a0 : Option Addr} {len cap : Nat} {d : DataW H} {p : List MemPlace} {ts : List TypeId} {ds : List (DataW H)} {j : Nat}
    (h : DataW.Trod enc Tryd.prog W 0 (fun _ => true) true 22 (.slice a0 len cap) d p) (hsz : (DataW.weightsEach Tryd.prog ts ds).all (· ≤ reachBytes) = true) (ht : ts[j]? = some 22) (hd : ds[j]? = some d) : ∃ ss, Opened W a0 len ss := by
  obtain ⟨fuel, hf⟩ := h
  rcases open_strings Tryd.underlying22 Tryd.underlying9 Tryd.cells9 hf with ⟨hcs, hx⟩ | ⟨a, len', cap', ss, hcs, _, hl, hm, hz, hx, hcell, hws⟩
  · simp [Value.cells] at hcs
    obtain ⟨rfl, rfl, rfl⟩ := hcs
    exact ⟨[], rfl, by omega, fun i hi => by omega, fun _ => rfl, Or.inl rfl⟩
  · simp [Value.cells] at hcs
    obtain ⟨rfl, rfl, rfl⟩ := hcs
    simp only [Prod.mk.injEq] at hx
    obtain ⟨rfl, rfl⟩ := hx
    simp only [if_true] at hz
    have hs1 := sized_slice hsz ht hd Tryd.underlying22
    rw [Tryd.bytes9] at hs1
    simp only [strs, List.length_map, List.length_take, List.length_drop, reachBytes] at hs1
    have hs2 := strs_sized hsz ht hd Tryd.underlying22
    have hlt : (ss.take len).length = len := by simp; omega
    refine ⟨ss.take len, hlt, by omega, fun i hi => hs2 _ ?_, (fun h => by cases h), ?_⟩
    · have : (ss.take len).getD i ByteArray.empty = (ss.take len)[i] := by
        rw [List.getD_eq_getElem?_getD, List.getElem?_eq_getElem (by omega)]; rfl
      rw [this]; exact List.getElem_mem _
    · by_cases h0 : len = 0
      · exact Or.inl h0
      · obtain ⟨b, off, spot⟩ := a
        have hspot : spot = none := by simpa [Addr.add] using World.cell?_spot (hcell 0 (by omega))
        subst hspot
        refine Or.inr ⟨b, off, rfl, fun i hi => ?_⟩
        rw [← add_plain, hcell i (by omega)]
        unfold sv
        simp [hi]

set_option maxRecDepth 100000 in
set_option maxHeartbeats 1000000 in
theorem lifted (os : Os) (started : os.Started) (H : Type) (enc : TypeId × Value → H) :
    ReturnsInHanded {} Tryd.checked os 5 .any (fun w args => (Rows.fnScriptIsAShortestEditScriptSpec.pre enc Tryd.prog Tryd.f5 Rows.fnScriptIsAShortestEditScriptRow.domain false w args ∧ laidMetH Tryd.prog Rows.fnScriptIsAShortestEditScriptRow.laid w) ∧ sizedMet enc Tryd.prog Tryd.f5 (OpenSpec.ofChange Rows.fnScriptIsAShortestEditScriptSpec) false w args)
      (Rows.fnScriptIsAShortestEditScriptSpec.post enc Tryd.prog Tryd.f5 false true false false) := by
  refine returnsInHanded_of_change_and (C := Tryd.checked) (X := fun w _ => laidMetH Tryd.prog Rows.fnScriptIsAShortestEditScriptRow.laid w) (fun _ _ _ hh h => h.of_heap hh) Tryd.own started (by kernel_rfl) Tryd.func5
    (ChangeSpec.witness_shaped (enc := enc) (C := Tryd.checked) (os := os) (X := fun w _ => laidMetH Tryd.prog Rows.fnScriptIsAShortestEditScriptRow.laid w) false (World.laidAll Tryd.prog os Rows.fnScriptIsAShortestEditScriptRow.laid) #[.slice none 0 0, .slice none 0 0] 8 (World.laidAll_os _ _ _)
      (World.shaped_of_ZipB (by kernel_rfl) (by kernel_rfl)) (by kernel_rfl) (by kernel_rfl) (by kernel_rfl)
      (by rw [MakeChecks.laidMetH_plain _ _ _ (by kernel_rfl)]; exact laidMet_laidAll _ (by kernel_rfl) (by kernel_rfl))) ?_
  intro W base args ds gs before hval0 hW hc hsz0 hL _
  have hsz : (DataW.weightsEach Tryd.prog (Tryd.f5.params.toList ++ Rows.fnScriptIsAShortestEditScriptSpec.plain.varTypes Tryd.prog) (ds ++ gs)).all (· ≤ reachBytes) = true := hsz0
  clear hsz0
  have hval : ∀ (j : Nat) t v, Tryd.f5.params[j]? = some t → args[j]? = some v → Value.okWide Tryd.prog W .any base t v := hval0
  have hW' := hW
  obtain ⟨p, q, hA0, hV, rfl, _, _⟩ := hW
  have hA : DataW.TrodAll enc Tryd.prog W 0 (fun _ => true) true Tryd.f5.params.toList args.toList ds p := hA0
  rw [Tryd.params5] at hA hval hsz
  obtain ⟨v0, v1, d0, d1, p0, p1, rfl, rfl, rfl, h0, h1⟩ := trodAll_two hA
  obtain ⟨rfl, rfl⟩ := trodVars_none hV
  obtain ⟨a0, len0, cap0, rfl⟩ := okWide_slice Tryd.underlying22 (hval 0 22 v0 rfl rfl)
  obtain ⟨a1, len1, cap1, rfl⟩ := okWide_slice Tryd.underlying22 (hval 1 22 v1 rfl rfl)
  have h0k := h0
  have h1k := h1
  clear hA0 hval0
  simp only [List.append_nil] at hW'
  have hlt : ∀ x ∈ p0 ++ p1, x.block < W.heap.size := fun x hx => by simpa using hW'.lt x hx
  obtain ⟨X, oX⟩ := opened h0 hsz (j := 0) rfl rfl
  obtain ⟨Y, oY⟩ := opened h1 hsz (j := 1) rfl rfl
  refine (law_any a0 a1 len0 len1 cap0 cap1 X Y oX.length oY.length oX.small oY.small oX.sized oY.sized oX.none0 oY.none0 W oX.reads oY.reads).mono fun e W' ⟨he, hb⟩ => ?_
  subst he
  refine ⟨_, rfl, ⟨_, _, _, [], p0 ++ p1, [], hW', ?_, ?_, rfl, hb.frame _, fun h => by cases h⟩⟩
  · exact trodAll_mk1 (shut_bool Tryd.underlying4 _)
  · exact trodAll_mk2 (Below.trod Tryd.laidOut (by kernel_rfl) (of_decide_eq_true (by kernel_rfl)) h0k hb (fun x hx => hlt x (List.mem_append_left _ hx))) (Below.trod Tryd.laidOut (by kernel_rfl) (of_decide_eq_true (by kernel_rfl)) h1k hb (fun x hx => hlt x (List.mem_append_right _ hx)))

theorem row_holds : Rows.FnScriptIsAShortestEditScriptSaid :=
  OpenClaim.holds_of_wide 5 Tryd.f5 rfl rfl rfl rfl rfl rfl rfl ⟨rfl, rfl, rfl, rfl, rfl⟩ rfl rfl rfl rfl rfl (by kernel_rfl) Tryd.func5 (by kernel_rfl)
    (of_decide_eq_true (by kernel_rfl)) (by unfold Func.isWrapper; first | (rw [if_pos (by decide +kernel)]; kernel_rfl) | (rw [if_neg (by decide +kernel)]; exact ⟨rfl, rfl⟩))
    (fun os started H enc _ => lifted os started H enc)

theorem proved : Rows.FnScriptIsAShortestEditScriptCardSaid :=
  Claim7.holds_tied_plain_at .later [] [.data, .pinned] true (true, "b8935a0d123dc33cc5e6f7df382c078c91eb91cbbb608ed4299de43870840567") false row_holds (fun _ h => by cases h) (by kernel_rfl) (fun _ h => by cases h) fnScriptIsAShortestEditScript_row_tie rfl ⟨rfl, rfl⟩ (by kernel_rfl) rfl
    (fun f fn hf hfn => by
      obtain rfl : f = 5 := Option.some.inj ((show Tryd.prog.funcNamed Tryd.f5.name = some 5 by kernel_rfl).symm.trans hf) |>.symm
      obtain rfl : fn = Tryd.f5 := (Option.some.inj (Tryd.func5.symm.trans hfn)).symm
      exact ⟨by kernel_rfl, fun j t ht => by
        rw [Tryd.params5] at ht
        have hm : t ∈ [22, 22] := by simpa using Array.mem_of_getElem? ht
        have hall : ([22, 22].all fun u => !Tryd.prog.wantsStandIn u) = true := by kernel_rfl
        exact (show Tryd.prog.wantsStandIn t = false by simpa using List.all_eq_true.1 hall t hm)⟩)
    (by kernel_rfl)

end Go.Proofs.Qxb6606138aDoor
