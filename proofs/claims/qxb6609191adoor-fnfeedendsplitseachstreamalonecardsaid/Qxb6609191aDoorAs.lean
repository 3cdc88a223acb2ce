/-
  Seat b6609191aD: the shelf's contracts of bytes.makeASCIISet and asciiSet.contains at this dump.
-/
import Derived.Shelf.Bytes.SlTrimWalks
import Derived.Test.Qxb6609191aDoorProg
namespace Go.Proofs
open Go.Shelf Go.RowKit
def Tryd.lays11_ren : Go.Shelf.Ren := ⟨fun | 11 => 40 | n => n, fun | 27 => 54 | n => n, fun n => n⟩
theorem Tryd.lays11 : Go.Proofs.SlLaysV.n11 Tryd.prog Tryd.lays11_ren := {
  mixed := by kernel_rfl
  f11 := Tryd.func40.trans (congrArg some (by kernel_rfl))
  t0 := Tryd.underlying0
  a0 := Tryd.isAgg0
  z0 := Tryd.sizeOf0
  v0 := Tryd.zeroValue0
  t3 := Tryd.underlying3
  a3 := Tryd.isAgg3
  z3 := Tryd.sizeOf3
  v3 := Tryd.zeroValue3
  t4 := Tryd.underlying4
  a4 := Tryd.isAgg4
  z4 := Tryd.sizeOf4
  v4 := Tryd.zeroValue4
  t5 := Tryd.underlying5
  a5 := Tryd.isAgg5
  z5 := Tryd.sizeOf5
  v5 := Tryd.zeroValue5
  t9 := Tryd.underlying9
  a9 := Tryd.isAgg9
  z9 := Tryd.sizeOf9
  v9 := Tryd.zeroValue9
  t27 := Tryd.underlying54
  a27 := Tryd.isAgg54
  z27 := Tryd.sizeOf54 }
def Tryd.lays16_ren : Go.Shelf.Ren := ⟨fun | 16 => 41 | n => n, fun | 27 => 54 | 31 => 66 | n => n, fun n => n⟩
theorem Tryd.lays16 : Go.Proofs.SlLaysV.n16 Tryd.prog Tryd.lays16_ren := {
  mixed := by kernel_rfl
  f16 := Tryd.func41.trans (congrArg some (by kernel_rfl))
  t0 := Tryd.underlying0
  a0 := Tryd.isAgg0
  z0 := Tryd.sizeOf0
  v0 := Tryd.zeroValue0
  t4 := Tryd.underlying4
  a4 := Tryd.isAgg4
  z4 := Tryd.sizeOf4
  v4 := Tryd.zeroValue4
  t5 := Tryd.underlying5
  a5 := Tryd.isAgg5
  z5 := Tryd.sizeOf5
  v5 := Tryd.zeroValue5
  t27 := Tryd.underlying54
  a27 := Tryd.isAgg54
  z27 := Tryd.sizeOf54
  t31 := Tryd.underlying66
  a31 := Tryd.isAgg66
  z31 := Tryd.sizeOf66
  v31 := Tryd.zeroValue66 }

theorem Tryd.info54 : (Tryd.prog.info? 54).map (fun i => (i.zero, i.size)) = some (some (.agg (Array.replicate 256 (.bool false))), 256) := by kernel_rfl

theorem Tryd.bytes_makeASCIISet (w : World) :
    Calls Tryd.prog 40 #[.string ⟨#[13, 10]⟩] w fun e w' => e = .returned (.tuple #[.agg (Lib.setCells [13, 10]), .bool true]) ∧ w' = w.alloc (.cells (Lib.setCells [13, 10]) 54) :=
  Any.bytes_makeASCIISet Tryd.lays11 (zero_of_info Tryd.info54).1 (zero_of_info Tryd.info54).2 ⟨#[13, 10]⟩ w (by decide) (by
    intro j b hj
    match j, hj with
    | 0, hj => simp at hj; subst hj; decide
    | 1, hj => simp at hj; subst hj; decide
    | (j + 2), hj => simp at hj)

theorem Tryd.asciiSet_contains (b : Nat) (x : UInt8) (v : Bool) (w : World) (hc : w.cell? ⟨b, x.toNat, none⟩ = some (.bool v)) :
    Calls Tryd.prog 41 #[.pointer (some ⟨b, 0, none⟩), .int .u8 x.toNat] w fun e w' => e = .returned (.bool v) ∧ w' = w :=
  Any.bytes_asciiSet_contains Tryd.lays16 b x v w hc
end Go.Proofs
