/-
  Seat b6606413aF: from what the rows list to what the walks need.
-/
import Derived.Test.Qxb6606413aFmtW4
import Derived.Test.Qxb6606413aFmtTie
import Derived.ProofKit
import Derived.OpenShut
import Derived.LaidMore
import Derived.Lay
import Derived.SizedLaws
import Derived.Lib.LaidRTabT
import Derived.Lib.LaidU8T
import Derived.Lib.LaidTab
import Derived.PinnedBridge
namespace Go.Proofs.Qxb6606413aFmt
open Go.ChangeShapes Go.WideShapes Go.ChangeAt Go.RowKit Go.Lib

theorem cfData : Rows.laid_unicode_Cf (H := Unit) = rtabData cfTab := by kernel_rfl
theorem wsData : Rows.laid_unicode_White_Space (H := Unit) = whiteData := by kernel_rfl
theorem acData : Rows.laid_unicode_utf8_acceptRanges (H := Unit) = acceptData := by kernel_rfl
theorem prData : Rows.laid_unicode_properties (H := Unit) = tabData .u8 propertiesTab := by kernel_rfl

theorem tabIs_of_reads {P : Program} {W : World} {name : String} {k : IntKind} {zs : List Int} {g : Nat} {t e : TypeId} {n : Nat}
    (hg : P.globalNamed name = some g) (hty : (P.globals[g]?).map (·.type) = some t) (ht : P.underlying t = some (.array n e)) (he : P.underlying e = some (.int k)) (hce : P.cellsOf e = 1) (hct : P.cellsOf t = n)
    (h : VarReads P W name (tabData k zs)) : TabIs P W name k zs := by
  obtain ⟨g', t', cs, fuel, p, hg', ht', hvar, hd⟩ := h
  obtain rfl := Option.some.inj (hg.symm.trans hg')
  obtain rfl := Option.some.inj (hty.symm.trans ht')
  unfold TabIs
  rw [hvar, ← cells_of_tab ht he hce hct hd]

theorem tabs_of_reads {W : World}
    (h1 : VarReads Tryf.prog W "unicode/utf8.acceptRanges" Rows.laid_unicode_utf8_acceptRanges)
    (h2 : VarReads Tryf.prog W "unicode.Cf" Rows.laid_unicode_Cf)
    (h3 : VarReads Tryf.prog W "unicode.White_Space" Rows.laid_unicode_White_Space)
    (h4 : VarReads Tryf.prog W "unicode.properties" Rows.laid_unicode_properties)
    (h5 : VarReads Tryf.prog W "unicode/utf8.first" Rows.laid_unicode_utf8_first) : Tabs W := by
  rw [acData] at h1
  rw [cfData] at h2
  rw [wsData] at h3
  rw [prData] at h4
  have h5' : VarReads Tryf.prog W "unicode/utf8.first" firstData := by rw [← Pinned.utf8First_eq]; exact h5
  refine ⟨?_, ?_, ?_, ?_⟩
  · exact utf8Tabs_of_readsT (ρ := Tryf.lays196_ren) (U8Types.of196 Tryf.lays196) ⟨by kernel_rfl, by kernel_rfl, by kernel_rfl, by kernel_rfl, by kernel_rfl, by kernel_rfl, by kernel_rfl⟩ h5' h1
  · exact whiteTab_of_reads (ρ := Tryf.lays199_ren) Tryf.lays199 ⟨by kernel_rfl, by kernel_rfl, by kernel_rfl, by kernel_rfl, by kernel_rfl, by kernel_rfl, by kernel_rfl, by kernel_rfl⟩ h3
  · exact tabIs_of_reads (g := 5) (t := 63) (e := 5) (n := 256) (by kernel_rfl) (by kernel_rfl) (by kernel_rfl) (by kernel_rfl) (by kernel_rfl) (by kernel_rfl) h4
  · exact rvar_of_readsT (ρ := Tryf.laysGn14_ren.viaGn) (RTypes.ofGn14 Tryf.laysGn14) ⟨by kernel_rfl, by kernel_rfl, by kernel_rfl, by kernel_rfl, by kernel_rfl, by kernel_rfl, by kernel_rfl, by kernel_rfl⟩ (by kernel_rfl) (by kernel_rfl) h2

theorem strict_of_reads {W : World} (h : VarReads Tryf.prog W "example.com/access-by-relation/access-by-relation/tuple.strict" Rows.laid_example_com_access_by_relation_access_by_relation_tuple_strict) :
    W.cell? ⟨0, 0, none⟩ = some (.bool false) := by
  obtain ⟨g, t, cs, fuel, p, hg, hty, hvar, hd⟩ := h
  obtain rfl : (0 : Nat) = g := Option.some.inj ((show Tryf.prog.globalNamed "example.com/access-by-relation/access-by-relation/tuple.strict" = some 0 by kernel_rfl).symm.trans hg)
  obtain rfl : (42 : Nat) = t := Option.some.inj ((show (Tryf.prog.globals[0]?).map (·.type) = some 42 by kernel_rfl).symm.trans hty)
  have hcell := World.var?_cell hg hvar 0
  rw [hcell]
  obtain ⟨xs, n, rfl, hx, hlen, hxl, hall⟩ := DataW.trod_struct Tryf.underlying42 hd
  have h0 := hall 0 _ rfl
  have hc42 : Tryf.prog.cellsOf 42 = 1 := by kernel_rfl
  have hc4 : Tryf.prog.cellsOf 4 = 1 := by kernel_rfl
  rw [hc42] at hlen
  obtain ⟨x0, rfl⟩ := List.length_eq_one_iff.1 hxl
  have h0' : DataW.trod (fun _ => ()) Tryf.prog W 0 (fun _ => true) false n 4 (List.take (Tryf.prog.cellsOf 4) (List.drop 0 cs.toList)) = some x0 := h0
  obtain ⟨b, hcs, rfl⟩ := DataW.trod_bool Tryf.underlying4 h0'
  have hb : b = false := by
    have e := congrArg Prod.fst hx
    simp only [Rows.laid_example_com_access_by_relation_access_by_relation_tuple_strict, List.map_cons, List.map_nil] at e
    cases e
    rfl
  subst hb
  rw [hc4, List.drop_zero, List.take_of_length_le (by omega)] at hcs
  rw [← Array.getElem?_toList, hcs]
  rfl

end Go.Proofs.Qxb6606413aFmt
