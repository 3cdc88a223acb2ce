/-
  DERIVED: THE SHELF's CONTRACTS AT THIS DUMP, IN PLAIN WORDS (tools/lay-plain.mjs out of 'TryfShelf.lean', which tools/lay-shelf.mjs wrote): THE SAME DECLARATIONS UNDER THE SAME NAMES: 'import', 'namespace', 'open', 'def', 'theorem' AND NOTHING ELSE: no command of the shelf's: FOR A HAND-IN. Each laying: the table of numbers ('.._ren') and one theorem, a field a fact of the dump's own or the kernel's comparison; each contract: ONE APPLICATION.
-/
import Derived.Shelf.Small.Utf8
import Derived.Shelf.Strings.Search1
import Derived.Shelf.Strings.Search2
import Derived.Shelf.Unicode.IsSpaceAny
import Derived.Ground.GgnProg
import Derived.Shelf.Unicode.PredsGn
import Derived.Shelf.Unicode.ValidAny
import Derived.Test.Qxb6606413aFmtProg
namespace Go.Proofs
open Go.Shelf
def Tryf.lays119_ren : Go.Shelf.Ren := ⟨fun | 119 => 52 | n => n, fun | 21 => 21 | 4 => 4 | n => n, fun | n => n⟩
theorem Tryf.lays119 : Go.Proofs.Lays.n119 Tryf.prog Tryf.lays119_ren := {
  mixed := by kernel_rfl
  f119 := Tryf.func52.trans (congrArg some (by kernel_rfl))
  t4 := Tryf.underlying4
  a4 := Tryf.isAgg4
  z4 := Tryf.sizeOf4
  v4 := Tryf.zeroValue4
  t21 := Tryf.underlying21
  a21 := Tryf.isAgg21
  z21 := Tryf.sizeOf21
  v21 := Tryf.zeroValue21 }
theorem Tryf.utf8_ValidRune (r : Int) (w : World) :
    Calls Tryf.prog 52 #[.int .i32 r] w fun e w' => e = .returned (.bool (Lib.validRune r)) ∧ w' = w := Any.utf8_ValidRune Tryf.lays119 r w
def Tryf.lays219_ren : Go.Shelf.Ren := ⟨fun | 219 => 43 | 217 => 45 | 225 => 46 | 224 => 47 | 267 => 48 | 266 => 50 | 314 => 51 | n => n, fun | 9 => 9 | 3 => 3 | 4 => 4 | 5 => 5 | 46 => 61 | 146 => 92 | 51 => 67 | n => n, fun | 1 => 6 | n => n⟩
theorem Tryf.lays219 : Go.Proofs.Lays.n219 Tryf.prog Tryf.lays219_ren := {
  mixed := by kernel_rfl
  f217 := Tryf.func45.trans (congrArg some (by kernel_rfl))
  f219 := Tryf.func43.trans (congrArg some (by kernel_rfl))
  f224 := Tryf.func47.trans (congrArg some (by kernel_rfl))
  f225 := Tryf.func46.trans (congrArg some (by kernel_rfl))
  f266 := Tryf.func50.trans (congrArg some (by kernel_rfl))
  f267 := Tryf.func48.trans (congrArg some (by kernel_rfl))
  f314 := Tryf.func51.trans (congrArg some (by kernel_rfl))
  t3 := Tryf.underlying3
  a3 := Tryf.isAgg3
  z3 := Tryf.sizeOf3
  v3 := Tryf.zeroValue3
  t4 := Tryf.underlying4
  a4 := Tryf.isAgg4
  z4 := Tryf.sizeOf4
  v4 := Tryf.zeroValue4
  t5 := Tryf.underlying5
  a5 := Tryf.isAgg5
  z5 := Tryf.sizeOf5
  v5 := Tryf.zeroValue5
  t9 := Tryf.underlying9
  a9 := Tryf.isAgg9
  z9 := Tryf.sizeOf9
  v9 := Tryf.zeroValue9
  t46 := Tryf.underlying61
  a46 := Tryf.isAgg61
  z46 := Tryf.sizeOf61
  v46 := Tryf.zeroValue61
  t51 := Tryf.underlying67
  a51 := Tryf.isAgg67
  z51 := Tryf.sizeOf67
  v51 := Tryf.zeroValue67
  t146 := Tryf.underlying92
  a146 := Tryf.isAgg92
  z146 := Tryf.sizeOf92
  v146 := Tryf.zeroValue92
  g1 := by kernel_rfl }
open Go.RowKit Go.Lib in
theorem Tryf.stringslite_Index_one (s : ByteArray) (c : UInt8) (w : World) :
    Calls Tryf.prog 43 #[.string s, .string ⟨#[c]⟩] w fun e w' => e = .returned (.int .i64 (Lib.indexByte s.data.toList c)) ∧ w' = w := Any.stringslite_Index_one Tryf.lays219 s c w
def Tryf.lays199_ren : Go.Shelf.Ren := ⟨fun | 199 => 27 | 261 => 38 | 311 => 39 | 312 => 40 | n => n, fun | 21 => 21 | 4 => 4 | 51 => 67 | 141 => 56 | 0 => 0 | 196 => 71 | 193 => 68 | 3 => 3 | 198 => 74 | 49 => 72 | 194 => 69 | 201 => 77 | 226 => 85 | 46 => 61 | 227 => 86 | n => n, fun | 6 => 4 | n => n⟩
theorem Tryf.lays199 : Go.Proofs.Lays.n199 Tryf.prog Tryf.lays199_ren := {
  mixed := by kernel_rfl
  f199 := Tryf.func27.trans (congrArg some (by kernel_rfl))
  f261 := Tryf.func38.trans (congrArg some (by kernel_rfl))
  f311 := Tryf.func39.trans (congrArg some (by kernel_rfl))
  f312 := Tryf.func40.trans (congrArg some (by kernel_rfl))
  t0 := Tryf.underlying0
  a0 := Tryf.isAgg0
  z0 := Tryf.sizeOf0
  v0 := Tryf.zeroValue0
  t3 := Tryf.underlying3
  a3 := Tryf.isAgg3
  z3 := Tryf.sizeOf3
  v3 := Tryf.zeroValue3
  t4 := Tryf.underlying4
  a4 := Tryf.isAgg4
  z4 := Tryf.sizeOf4
  v4 := Tryf.zeroValue4
  t21 := Tryf.underlying21
  a21 := Tryf.isAgg21
  z21 := Tryf.sizeOf21
  v21 := Tryf.zeroValue21
  t46 := Tryf.underlying61
  a46 := Tryf.isAgg61
  z46 := Tryf.sizeOf61
  v46 := Tryf.zeroValue61
  t49 := Tryf.underlying72
  a49 := Tryf.isAgg72
  z49 := Tryf.sizeOf72
  v49 := Tryf.zeroValue72
  t51 := Tryf.underlying67
  a51 := Tryf.isAgg67
  z51 := Tryf.sizeOf67
  v51 := Tryf.zeroValue67
  t141 := Tryf.underlying56
  a141 := Tryf.isAgg56
  z141 := Tryf.sizeOf56
  v141 := Tryf.zeroValue56
  t193 := Tryf.underlying68
  a193 := Tryf.isAgg68
  z193 := Tryf.sizeOf68
  v193 := Tryf.zeroValue68
  t194 := Tryf.underlying69
  a194 := Tryf.isAgg69
  z194 := Tryf.sizeOf69
  v194 := Tryf.zeroValue69
  t196 := Tryf.underlying71
  a196 := Tryf.isAgg71
  z196 := Tryf.sizeOf71
  v196 := Tryf.zeroValue71
  t198 := Tryf.underlying74
  a198 := Tryf.isAgg74
  z198 := Tryf.sizeOf74
  v198 := Tryf.zeroValue74
  t201 := Tryf.underlying77
  a201 := Tryf.isAgg77
  z201 := Tryf.sizeOf77
  v201 := Tryf.zeroValue77
  t226 := Tryf.underlying85
  a226 := Tryf.isAgg85
  z226 := Tryf.sizeOf85
  v226 := Tryf.zeroValue85
  t227 := Tryf.underlying86
  a227 := Tryf.isAgg86
  z227 := Tryf.sizeOf86
  v227 := Tryf.zeroValue86
  g6 := by kernel_rfl }
open Go.RowKit Go.Lib in
theorem Tryf.unicode_IsSpace_any (r : Int) (w : World) (hlo : -2147483648 ≤ r) (hhi : r ≤ 2147483647) (hW : Lib.WhiteTab 4 w) :
    Calls Tryf.prog 27 #[.int .i32 r] w fun e w' => e = .returned (.bool (Lib.isSpaceZ r)) ∧ Below w.heap.size w w' := Any.unicode_IsSpace_any Tryf.lays199 r w hlo hhi hW
def Tryf.laysGn14_ren : Go.Shelf.Ren := ⟨fun | 14 => 29 | 25 => 39 | 26 => 40 | n => n, fun | 22 => 56 | 21 => 21 | 4 => 4 | 0 => 0 | 31 => 71 | 28 => 68 | 3 => 3 | 32 => 67 | 35 => 74 | 33 => 72 | 29 => 69 | 38 => 77 | 41 => 85 | 42 => 61 | 43 => 86 | n => n, fun | n => n⟩
theorem Tryf.laysGn14 : Go.Proofs.LaysGn.n14 Tryf.prog Tryf.laysGn14_ren := {
  mixed := by kernel_rfl
  f14 := Tryf.func29.trans (congrArg some (by kernel_rfl))
  f25 := Tryf.func39.trans (congrArg some (by kernel_rfl))
  f26 := Tryf.func40.trans (congrArg some (by kernel_rfl))
  t0 := Tryf.underlying0
  a0 := Tryf.isAgg0
  z0 := Tryf.sizeOf0
  v0 := Tryf.zeroValue0
  i0 := by kernel_rfl
  t3 := Tryf.underlying3
  a3 := Tryf.isAgg3
  z3 := Tryf.sizeOf3
  v3 := Tryf.zeroValue3
  i3 := by kernel_rfl
  t4 := Tryf.underlying4
  a4 := Tryf.isAgg4
  z4 := Tryf.sizeOf4
  v4 := Tryf.zeroValue4
  i4 := by kernel_rfl
  t21 := Tryf.underlying21
  a21 := Tryf.isAgg21
  z21 := Tryf.sizeOf21
  v21 := Tryf.zeroValue21
  i21 := by kernel_rfl
  t22 := Tryf.underlying56
  a22 := Tryf.isAgg56
  z22 := Tryf.sizeOf56
  v22 := Tryf.zeroValue56
  i22 := by kernel_rfl
  t28 := Tryf.underlying68
  a28 := Tryf.isAgg68
  z28 := Tryf.sizeOf68
  v28 := Tryf.zeroValue68
  i28 := by kernel_rfl
  t29 := Tryf.underlying69
  a29 := Tryf.isAgg69
  z29 := Tryf.sizeOf69
  v29 := Tryf.zeroValue69
  i29 := by kernel_rfl
  t31 := Tryf.underlying71
  a31 := Tryf.isAgg71
  z31 := Tryf.sizeOf71
  v31 := Tryf.zeroValue71
  i31 := by kernel_rfl
  t32 := Tryf.underlying67
  a32 := Tryf.isAgg67
  z32 := Tryf.sizeOf67
  v32 := Tryf.zeroValue67
  i32 := by kernel_rfl
  t33 := Tryf.underlying72
  a33 := Tryf.isAgg72
  z33 := Tryf.sizeOf72
  v33 := Tryf.zeroValue72
  i33 := by kernel_rfl
  t35 := Tryf.underlying74
  a35 := Tryf.isAgg74
  z35 := Tryf.sizeOf74
  v35 := Tryf.zeroValue74
  i35 := by kernel_rfl
  t38 := Tryf.underlying77
  a38 := Tryf.isAgg77
  z38 := Tryf.sizeOf77
  v38 := Tryf.zeroValue77
  i38 := by kernel_rfl
  t41 := Tryf.underlying85
  a41 := Tryf.isAgg85
  z41 := Tryf.sizeOf85
  v41 := Tryf.zeroValue85
  i41 := by kernel_rfl
  t42 := Tryf.underlying61
  a42 := Tryf.isAgg61
  z42 := Tryf.sizeOf61
  v42 := Tryf.zeroValue61
  i42 := by kernel_rfl
  t43 := Tryf.underlying86
  a43 := Tryf.isAgg86
  z43 := Tryf.sizeOf86
  v43 := Tryf.zeroValue86
  i43 := by kernel_rfl }
open Go.RowKit Go.Lib in
theorem Tryf.unicode_Is_any (Tb oT : Nat) (T : RTab) (r : Int) (w : World) (hlo : -2147483648 ≤ r) (hhi : r ≤ 2147483647) (hA : RTabAt Tb oT T w) (hok : RTabOk T) :
    Calls Tryf.prog 29 #[.pointer (some ⟨Tb, oT, none⟩), .int .i32 r] w fun e w' => e = .returned (.bool (isGo T r)) ∧ Below w.heap.size w w' := Any.unicode_Is_any Tryf.laysGn14 Tb oT T r w hlo hhi hA hok
def Tryf.laysGn22_ren : Go.Shelf.Ren := ⟨fun | 22 => 28 | n => n, fun | 21 => 21 | 4 => 4 | 32 => 67 | 5 => 5 | 40 => 63 | 0 => 0 | n => n, fun | 0 => 5 | n => n⟩
theorem Tryf.laysGn22 : Go.Proofs.LaysGn.n22 Tryf.prog Tryf.laysGn22_ren := {
  mixed := by kernel_rfl
  f22 := Tryf.func28.trans (congrArg some (by kernel_rfl))
  t0 := Tryf.underlying0
  a0 := Tryf.isAgg0
  z0 := Tryf.sizeOf0
  v0 := Tryf.zeroValue0
  i0 := by kernel_rfl
  t4 := Tryf.underlying4
  a4 := Tryf.isAgg4
  z4 := Tryf.sizeOf4
  v4 := Tryf.zeroValue4
  i4 := by kernel_rfl
  t5 := Tryf.underlying5
  a5 := Tryf.isAgg5
  z5 := Tryf.sizeOf5
  v5 := Tryf.zeroValue5
  i5 := by kernel_rfl
  t21 := Tryf.underlying21
  a21 := Tryf.isAgg21
  z21 := Tryf.sizeOf21
  v21 := Tryf.zeroValue21
  i21 := by kernel_rfl
  t32 := Tryf.underlying67
  a32 := Tryf.isAgg67
  z32 := Tryf.sizeOf67
  v32 := Tryf.zeroValue67
  i32 := by kernel_rfl
  t40 := Tryf.underlying63
  a40 := Tryf.isAgg63
  z40 := Tryf.sizeOf63
  g0 := by kernel_rfl
  m0 := by kernel_rfl }
open Go.RowKit Go.Lib in
theorem Tryf.unicode_IsControl_all (r : Int) (w : World) (hlo : -2147483648 ≤ r) (hhi : r ≤ 2147483647) (htab : Lib.TabIs Tryf.prog w "unicode.properties" .u8 Lib.propertiesTab) :
    Calls Tryf.prog 28 #[.int .i32 r] w fun e w' => e = .returned (.bool (isControlU r)) ∧ Below w.heap.size w w' := Any.unicode_IsControl_all Tryf.laysGn22 (by kernel_rfl) r w hlo hhi htab
def Tryf.lays196_ren : Go.Shelf.Ren := ⟨fun | 196 => 26 | 259 => 37 | n => n, fun | 9 => 9 | 4 => 4 | 3 => 3 | 5 => 5 | 12 => 12 | 119 => 63 | 0 => 0 | 46 => 61 | 139 => 66 | 138 => 65 | 53 => 84 | n => n, fun | 3 => 2 | 4 => 3 | n => n⟩
theorem Tryf.lays196 : Go.Proofs.Lays.n196 Tryf.prog Tryf.lays196_ren := {
  mixed := by kernel_rfl
  f196 := Tryf.func26.trans (congrArg some (by kernel_rfl))
  f259 := Tryf.func37.trans (congrArg some (by kernel_rfl))
  t0 := Tryf.underlying0
  a0 := Tryf.isAgg0
  z0 := Tryf.sizeOf0
  v0 := Tryf.zeroValue0
  t3 := Tryf.underlying3
  a3 := Tryf.isAgg3
  z3 := Tryf.sizeOf3
  v3 := Tryf.zeroValue3
  t4 := Tryf.underlying4
  a4 := Tryf.isAgg4
  z4 := Tryf.sizeOf4
  v4 := Tryf.zeroValue4
  t5 := Tryf.underlying5
  a5 := Tryf.isAgg5
  z5 := Tryf.sizeOf5
  v5 := Tryf.zeroValue5
  t9 := Tryf.underlying9
  a9 := Tryf.isAgg9
  z9 := Tryf.sizeOf9
  v9 := Tryf.zeroValue9
  t12 := Tryf.underlying12
  a12 := Tryf.isAgg12
  z12 := Tryf.sizeOf12
  v12 := Tryf.zeroValue12
  t46 := Tryf.underlying61
  a46 := Tryf.isAgg61
  z46 := Tryf.sizeOf61
  v46 := Tryf.zeroValue61
  t53 := Tryf.underlying84
  a53 := Tryf.isAgg84
  z53 := Tryf.sizeOf84
  v53 := Tryf.zeroValue84
  t119 := Tryf.underlying63
  a119 := Tryf.isAgg63
  z119 := Tryf.sizeOf63
  t138 := Tryf.underlying65
  a138 := Tryf.isAgg65
  z138 := Tryf.sizeOf65
  v138 := Tryf.zeroValue65
  t139 := Tryf.underlying66
  a139 := Tryf.isAgg66
  z139 := Tryf.sizeOf66
  v139 := Tryf.zeroValue66
  g3 := by kernel_rfl
  g4 := by kernel_rfl }
open Go.RowKit Go.Lib in
theorem Tryf.utf8_ValidString (s : ByteArray) (w : World) (hs : s.size ≤ 9223372036854775807) (hT : Lib.Utf8Tabs (Tryf.lays196_ren.g 3) (Tryf.lays196_ren.g 4) w) :
    Calls Tryf.prog 26 #[.string s] w fun e w' => e = .returned (.bool (Lib.validD s.data.toList)) ∧ Below w.heap.size w w' := Any.utf8_ValidString Tryf.lays196 s w hs hT
end Go.Proofs
