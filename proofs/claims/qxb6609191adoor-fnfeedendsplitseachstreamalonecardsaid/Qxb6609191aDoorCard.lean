/-
  Seat b6609191aD: what the three cards share: the world's shape kept; the library's variables; an argument of bytes, opened.
-/
import Derived.Test.Qxb6609191aDoorLw
import Derived.Test.Qxb6609191aDoorTie
import Derived.Test.Qxb6609191aDoorCards
import Derived.ProofKit
import Derived.OpenShut
import Derived.LaidMore
import Derived.Lay
import Derived.SizedLaws
import Derived.SevenTiedAt
import Derived.Stop.Joined
import Derived.Lib.LaidU8T
import Derived.PinnedBridge
import Derived.HandedShaped
import Derived.Shelf.Vars
import Derived.Carry
namespace Go.Proofs.Qxb6609191aDoor
open Go.ChangeShapes Go.WideShapes Go.ChangeAt Go.RowKit Go.Lib

theorem Tryd.own : ownKnob Tryd.prog.godebug = none := by kernel_rfl
theorem Tryd.laidOut : laidOutB Tryd.prog = true := by kernel_rfl
theorem Tryd.cells5 : Tryd.prog.cellsOf 5 = 1 := by kernel_rfl
theorem Tryd.bytes5 : Tryd.prog.bytesOf 5 = 1 := by kernel_rfl
theorem acData : Rows.laid_unicode_utf8_acceptRanges (H := Unit) = acceptData := by kernel_rfl

def renU8 : Go.Shelf.Ren := ⟨fun n => n, fun | 119 => 68 | 138 => 70 | 139 => 71 | n => n, fun | 3 => 1 | 4 => 2 | n => n⟩
theorem tabs_of_reads {W : World} (h1 : VarReads Tryd.prog W "unicode/utf8.acceptRanges" Rows.laid_unicode_utf8_acceptRanges) (h5 : VarReads Tryd.prog W "unicode/utf8.first" Rows.laid_unicode_utf8_first) : Lib.Utf8Tabs 1 2 W := by
  rw [acData] at h1
  have h5' : VarReads Tryd.prog W "unicode/utf8.first" firstData := by rw [← Pinned.utf8First_eq]; exact h5
  exact utf8Tabs_of_readsT (ρ := renU8) ⟨Tryd.underlying5, Tryd.underlying68, Tryd.underlying70, Tryd.underlying71⟩ ⟨by kernel_rfl, by kernel_rfl, by kernel_rfl, by kernel_rfl, by kernel_rfl, by kernel_rfl, by kernel_rfl⟩ h5' h1

theorem max_of_shape {W : World} (h : W.ShapedOpen Tryd.prog) : ∃ m : Int, W.cell? ⟨0, 0, none⟩ = some (.int .i64 m) :=
  cell_of_shapedOpen_int (P := Tryd.prog) (g := 0) (t := 3) (zero := #[.int .i64 0]) h (of_decide_eq_true (by kernel_rfl)) (by kernel_rfl) rfl (by kernel_rfl) (by kernel_rfl) Tryd.underlying3

/-- The row's contract, with the world's shape and what is laid. -/
theorem handed_laid {H : Type} {enc : TypeId × Value → H} {a : Assume} {C : Checked} {os : Os} {f : FuncId} {fn : Func} {s : ChangeSpec} {conds : List PathCond} {apart fresh handsOn again : Bool} {X : World → Array Value → Prop}
    (hX : ∀ (w w' : World) (args : Array Value), w.heap = w'.heap → X w args → X w' args)
    (own : ownKnob C.prog.godebug = none) (started : os.Started) (noInit : C.prog.inits.idxOf? f = none) (hfn : C.prog.funcs[f]? = some fn)
    (witness : ∃ (w : World) (tape : Tape) (i : Input), w.os = os ∧ (w.forCall tape i).Shaped C.prog ∧ i.vars = [] ∧ Input.okWide C.prog (w.forCall tape i) .any w.heap.size f i ∧
      ((s.pre enc C.prog fn conds apart (w.forCall tape i).memory i.args ∧ X (w.forCall tape i).memory i.args) ∧ sizedMet enc C.prog fn (OpenSpec.ofChange s) apart (w.forCall tape i).memory i.args) ∧ a.holds C.prog (lone (Frame.enter C.prog f i.args .normal) [] (w.forCall tape i)))
    (contract : ∀ (W : World) (base : Nat) (args : Array Value) (ds gs : List (DataW H)) (before : List MemPlace),
      (∀ (j : Nat) t v, fn.params[j]? = some t → args[j]? = some v → Value.okWide C.prog W .any base t v) →
      DataW.Whole enc C.prog fn.params.toList s.vars apart W args.toList ds gs before →
      (DataW.weightsEach C.prog (fn.params.toList ++ s.plain.varTypes C.prog) (ds ++ gs)).all (· ≤ reachBytes) = true → X W args → W.ShapedOpen C.prog →
      Calls C.prog f args W fun e W' => ∃ v, e = .returned v ∧ s.post enc C.prog fn apart fresh handsOn again W args v W') :
    ReturnsInHanded a C os f .any (fun w args => (s.pre enc C.prog fn conds apart w args ∧ X w args) ∧ sizedMet enc C.prog fn (OpenSpec.ofChange s) apart w args) (s.post enc C.prog fn apart fresh handsOn again) := by
  refine returnsInHanded_of_calls own started noInit witness ?_
  intro w tape i _ hsh _ hok hpre _
  obtain ⟨_, _, _, fn', hfn', _, _, _, _, hval⟩ := hok
  have e : fn' = fn := Option.some.inj (hfn'.symm.trans hfn)
  subst e
  obtain ⟨⟨⟨ds, gs, before, hw, _⟩, hx⟩, hz⟩ := hpre
  have hw' := DataW.Whole.of_heap (w' := w.forCall tape i) (by rfl) hw
  refine (contract (w.forCall tape i) w.heap.size i.args ds gs before hval hw' (hz.weights hw) (hX _ _ _ (by rfl) hx) hsh).mono fun e W' ⟨v, he, hp⟩ => ?_
  subst he
  exact ChangeSpec.post_blind hp

theorem byte_of_wf {x : Int} (h : (Lit.int .u8 x).wf = true) : 0 ≤ x ∧ x < 256 := by
  have h1 : IntKind.u8.min = 0 := rfl
  have h2 : IntKind.u8.max = 255 := rfl
  simp only [Lit.wf, Bool.and_eq_true, decide_eq_true_eq] at h
  omega

/-- An argument of type []byte, opened. -/
theorem opened {H : Type} {enc : TypeId × Value → H} {W : World} {a0 : Option Addr} {len cap : Nat} {d : DataW H} {p : List MemPlace} {ts : List TypeId} {ds : List (DataW H)} {j : Nat}
    (h : DataW.Trod enc Tryd.prog W 0 (fun _ => true) true 22 (.slice a0 len cap) d p) (hsz : (DataW.weightsEach Tryd.prog ts ds).all (· ≤ reachBytes) = true) (ht : ts[j]? = some 22) (hd : ds[j]? = some d) :
    ∃ l : List UInt8, l.length ≤ 140737488355328 ∧ Rc W (.slice a0 len cap) l := by
  obtain ⟨fuel, hf⟩ := h
  rcases open_ints Tryd.underlying22 Tryd.underlying5 Tryd.cells5 hf with ⟨hcs, hx⟩ | ⟨a, len', cap', zs, hcs, _, hl, hm, hz, hx, hcell, hwz⟩
  · simp [Value.cells] at hcs
    obtain ⟨rfl, rfl, rfl⟩ := hcs
    exact ⟨[], by simp, none, 0, rfl, Nat.le_refl _, .inl ⟨rfl, rfl, rfl⟩⟩
  · simp [Value.cells] at hcs
    obtain ⟨rfl, rfl, rfl⟩ := hcs
    simp only [Prod.mk.injEq] at hx
    obtain ⟨rfl, rfl⟩ := hx
    simp only [if_true] at hz
    have hs1 := sized_slice hsz ht hd Tryd.underlying22
    rw [Tryd.bytes5] at hs1
    simp only [lits, List.length_map, List.length_take, List.length_drop, reachBytes] at hs1
    have hll : ((zs.take len).map fun z => UInt8.ofNat z.toNat).length = len := by simp; omega
    refine ⟨(zs.take len).map fun z => UInt8.ofNat z.toNat, by rw [hll]; omega, some a, cap, by rw [hll], by rw [hll]; omega, .inr ⟨a, rfl, fun i hi => ?_⟩⟩
    rw [hll] at hi
    rw [hcell i (by omega)]
    have hiz : i < zs.length := by omega
    have hw := byte_of_wf (hwz zs[i] (List.getElem_mem hiz))
    simp only [List.getD_eq_getElem?_getD, List.getElem?_map, List.getElem?_take, if_pos hi, List.getElem?_eq_getElem hiz, Option.map_some, Option.getD_some, bv]
    congr 2
    rw [UInt8.toNat_ofNat']
    omega

end Go.Proofs.Qxb6609191aDoor
