/-
  Seat b6609191aD: the shelf's contract of utf8.DecodeRune at this dump.
-/
import Derived.Shelf.Spec.DecodeRune
import Derived.Test.Qxb6609191aDoorProg
namespace Go.Proofs
open Go.Shelf Go.RowKit
def Tryd.lays32_ren : Go.Shelf.Ren := ⟨fun | 32 => 42 | 49 => 49 | n => n, fun | 0 => 0 | 3 => 3 | 4 => 4 | 5 => 5 | 21 => 21 | 25 => 64 | 30 => 22 | 33 => 57 | 66 => 68 | 68 => 70 | 69 => 71 | n => n, fun | 2 => 1 | 3 => 2 | n => n⟩
theorem Tryd.lays32 : Go.Proofs.Lays7.n32 Tryd.prog Tryd.lays32_ren := {
  mixed := by kernel_rfl
  f32 := Tryd.func42.trans (congrArg some (by kernel_rfl))
  f49 := Tryd.func49.trans (congrArg some (by kernel_rfl))
  t0 := Tryd.underlying0
  a0 := Tryd.isAgg0
  z0 := Tryd.sizeOf0
  v0 := Tryd.zeroValue0
  i0 := by kernel_rfl
  t3 := Tryd.underlying3
  a3 := Tryd.isAgg3
  z3 := Tryd.sizeOf3
  v3 := Tryd.zeroValue3
  i3 := by kernel_rfl
  t4 := Tryd.underlying4
  a4 := Tryd.isAgg4
  z4 := Tryd.sizeOf4
  v4 := Tryd.zeroValue4
  i4 := by kernel_rfl
  t5 := Tryd.underlying5
  a5 := Tryd.isAgg5
  z5 := Tryd.sizeOf5
  v5 := Tryd.zeroValue5
  i5 := by kernel_rfl
  t21 := Tryd.underlying21
  a21 := Tryd.isAgg21
  z21 := Tryd.sizeOf21
  v21 := Tryd.zeroValue21
  i21 := by kernel_rfl
  t25 := Tryd.underlying64
  a25 := Tryd.isAgg64
  z25 := Tryd.sizeOf64
  v25 := Tryd.zeroValue64
  i25 := by kernel_rfl
  t30 := Tryd.underlying22
  a30 := Tryd.isAgg22
  z30 := Tryd.sizeOf22
  v30 := Tryd.zeroValue22
  i30 := by kernel_rfl
  t33 := Tryd.underlying57
  a33 := Tryd.isAgg57
  z33 := Tryd.sizeOf57
  v33 := Tryd.zeroValue57
  i33 := by kernel_rfl
  t66 := Tryd.underlying68
  a66 := Tryd.isAgg68
  z66 := Tryd.sizeOf68
  t68 := Tryd.underlying70
  a68 := Tryd.isAgg70
  z68 := Tryd.sizeOf70
  v68 := Tryd.zeroValue70
  i68 := by kernel_rfl
  t69 := Tryd.underlying71
  a69 := Tryd.isAgg71
  z69 := Tryd.sizeOf71
  v69 := Tryd.zeroValue71
  i69 := by kernel_rfl
  g2 := by kernel_rfl
  g3 := by kernel_rfl }

theorem Tryd.utf8_DecodeRune (s : ByteArray) (b off cap : Nat) (w : World) (hT : Lib.Utf8Tabs 1 2 w)
    (hp : ∀ j, j < s.size → w.cell? ⟨b, off + j, none⟩ = some (.int .u8 (s.get! j).toNat)) :
    Calls Tryd.prog 42 #[.slice (some ⟨b, off, none⟩) s.size cap] w fun e w' => e = .returned (.tuple #[.int .i32 (Lib.decodeGo s).1, .int .i64 (Lib.decodeGo s).2]) ∧ Below w.heap.size w w' :=
  Any7.utf8_DecodeRune Tryd.lays32 s b off cap w hT hp
end Go.Proofs
