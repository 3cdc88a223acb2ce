/-
  Seat b6606413aF: named and fmt.Errorf: some text, some error.
-/
import Derived.Test.Qxb6606413aFmtW2
import Derived.Stop.CallBack
import Derived.Stop.IfaceNil
import GoSem.ClaimData
import Derived.WalkSpells
import Derived.Stop.Texts
import Derived.Stop.Told
import Derived.Stop.FmtTextKit
import Derived.Stop.FmtTextLaws
import Derived.Stop.FmtTextBases
namespace Go.Proofs.Qxb6606413aFmt
open Go.RowKit Go.Lib
open Go.Extern.Stop Go.Stop Go.Extern

theorem call31 (args : Array Value) (w : World) : (callFunc 31 args).run Tryf.prog w = ((FmtStop.errorf #[9, 58] #[30] args).run Tryf.prog w).andThen fun v w' => .ok (.value v) w' :=
  run_callFunc_extern Tryf.func31 (by kernel_rfl) (by kernel_rfl) (by kernel_rfl) (by kernel_rfl) args w
theorem call42 (args : Array Value) (w : World) : (callFunc 42 args).run Tryf.prog w = ((FmtStop.sprintf #[9, 58] #[9] args).run Tryf.prog w).andThen fun v w' => .ok (.value v) w' :=
  run_callFunc_extern Tryf.func42 (by kernel_rfl) (by kernel_rfl) (by kernel_rfl) (by kernel_rfl) args w
theorem guardF (name : String) (w : World) : (FmtStop.guard name).run Tryf.prog w = .ok () w := by kernel_rfl

-- the formats
theorem fmtU : FmtStop.printed? ⟨#[37, 85]⟩ 1 = some [(0, 85, false)] := by kernel_rfl
theorem fmtUr (w : World) : (FmtDoors.printed ⟨#[37, 85]⟩ 1).run Tryf.prog w = .ok [(0, 85, false)] w := by kernel_rfl
theorem fmtUser : FmtStop.printed? ⟨#[117, 115, 101, 114, 32, 37, 113, 58, 32, 37, 115]⟩ 2 = some [(0, 113, false), (1, 115, false)] := by kernel_rfl
theorem fmtUserr (w : World) : (FmtDoors.printed ⟨#[117, 115, 101, 114, 32, 37, 113, 58, 32, 37, 115]⟩ 2).run Tryf.prog w = .ok [(0, 113, false), (1, 115, false)] w := by kernel_rfl
theorem fmtObj : FmtStop.printed? ⟨#[111, 98, 106, 101, 99, 116, 32, 37, 113, 58, 32, 37, 115]⟩ 2 = some [(0, 113, false), (1, 115, false)] := by kernel_rfl
theorem fmtObjr (w : World) : (FmtDoors.printed ⟨#[111, 98, 106, 101, 99, 116, 32, 37, 113, 58, 32, 37, 115]⟩ 2).run Tryf.prog w = .ok [(0, 113, false), (1, 115, false)] w := by kernel_rfl
theorem fmtName : FmtStop.printed? ⟨#[37, 115, 32, 37, 113, 58, 32, 37, 115]⟩ 3 = some [(0, 115, false), (1, 113, false), (2, 115, false)] := by kernel_rfl
theorem fmtNamer (w : World) : (FmtDoors.printed ⟨#[37, 115, 32, 37, 113, 58, 32, 37, 115]⟩ 3).run Tryf.prog w = .ok [(0, 115, false), (1, 113, false), (2, 115, false)] w := by kernel_rfl

-- the operands
def shape21 : List UInt8 := [4, 5, 0, 0, 0, 0, 0, 0, 0, 105, 110, 116, 51, 50]
theorem op21_85 (name : String) (x : Int) (w : World) : (FmtStop.operand name false 85 false (.iface 21 (.int .i32 x))).run Tryf.prog w = .ok (shape21, digits 8 (x % 2 ^ 64).toNat) w := by kernel_rfl
def shape9 : List UInt8 := [12, 6, 0, 0, 0, 0, 0, 0, 0, 115, 116, 114, 105, 110, 103]
theorem op9_113 (name : String) (b : Bool) (x : ByteArray) (w : World) : (FmtStop.operand name b 113 false (.iface 9 (.string x))).run Tryf.prog w = .ok (shape9, FmtStop.pack x.data.toList) w := by cases b <;> kernel_rfl
theorem op9_115 (name : String) (b : Bool) (x : ByteArray) (w : World) : (FmtStop.operand name b 115 false (.iface 9 (.string x))).run Tryf.prog w = .ok (shape9, FmtStop.pack x.data.toList) w := by cases b <;> kernel_rfl
theorem ptr80 (w : World) : (FmtStop.ptrTo "errors.errorString").run Tryf.prog w = .ok 80 w := by kernel_rfl
theorem elem80 (w : World) : (elemOf 80).run Tryf.prog w = .ok 82 w := by kernel_rfl
theorem isError80 (w : World) : (FmtDoors.textMethod 80 "Error").run Tryf.prog w = .ok true w := by kernel_rfl

/-- The call has returned some text; some error. -/
def Txt (e : Ending) : Prop := ∃ t : ByteArray, e = .returned (.string t) ∧ t.size ≤ 1000
def Err (e : Ending) : Prop := ∃ a : Addr, e = .returned (.iface 80 (.pointer (some a)))

set_option maxHeartbeats 1600000 in
set_option maxRecDepth 100000 in
theorem quoteRuneWith (r : Int) (w : World) (hr : asciiBad r) :
    Calls Tryf.prog 44 #[.int .i32 r, .int .u8 39, .bool false, .bool false] w fun e w' => Txt e ∧ Below w.heap.size w w' := by
  have cQ := quoted r w hr
  go_enter Tryf.func44, Tryf.ntmps44
  go_wp2_with (go_at_call 49; refine cQ.mono ?_; rintro e w2 ⟨v2, n2, rfl, hb2, hn2, hn3⟩)
  obtain ⟨g, cap, zs, rfl, hz, hcells⟩ := hb2.cells hn2
  have hcv := run_convert_bytes_arg (P := Tryf.prog) w2 90 5 Tryf.underlying90 Tryf.underlying5 g 0 _ cap zs hz hcells 9 Tryf.underlying9
  have hbel := hb2.below
  rw [hcv]
  go_wp2
  go_ret
  exact ⟨⟨_, rfl, by rw [strOfNums_size]; omega⟩, hbel⟩

set_option maxHeartbeats 1600000 in
theorem quoteRune (r : Int) (w : World) (hr : asciiBad r) :
    Calls Tryf.prog 41 #[.int .i32 r] w fun e w' => Txt e ∧ Below w.heap.size w w' := by
  have cQ := quoteRuneWith r w hr
  go_enter Tryf.func41, Tryf.ntmps41
  go_wp2_with (go_at_call 44; refine cQ.mono ?_; rintro e w2 ⟨⟨t2, rfl, ht2⟩, hb2⟩)
  go_ret
  exact ⟨⟨_, rfl, ht2⟩, hb2⟩

set_option maxHeartbeats 1600000 in
theorem named_low (r : Int) (w : World) (hr : asciiBad r) :
    Calls Tryf.prog 30 #[.int .i32 r] w fun e w' => Txt e ∧ Below w.heap.size w w' := by
  have cQ := quoteRune r w hr
  have h128 : r < 128 := by unfold asciiBad at hr; omega
  clear hr
  go_enter Tryf.func30, Tryf.ntmps30
  go_wp2_with (go_at_call 41; refine cQ.mono ?_; rintro e w2 ⟨⟨t2, rfl, ht2⟩, hb2⟩)
  go_ret
  exact ⟨⟨_, rfl, ht2⟩, hb2⟩

theorem parseU : (FmtText.parse [37, 85]).map FmtText.glue = some [.verb {} 85] := by rfl

theorem textU (r : Int) (h0 : 0 ≤ r) (h1 : r ≤ 2147483647) : FmtText.text "fmt.Sprintf" [[37, 85], shape21, digits 8 (r % 18446744073709551616).toNat] = some (FmtText.fmtUnicode {} r.toNat) := by
  have hw : (Lit.int .i32 r).wf = true := by simp [Lit.wf, IntKind.min, IntKind.max, IntKind.signed, IntKind.bits]; omega
  have e : (r % 18446744073709551616).toNat = r.toNat := by omega
  rw [FmtText.text_sprintf_glued parseU (FmtText.operands_cons (FmtText.operand_int_at (sh := shape21) (k := .i32) rfl rfl r hw) FmtText.operands_nil), e]
  simp [FmtText.render, FmtText.printArg, FmtText.scalarArg, FmtText.fits]

theorem unicode_short (u : Nat) : (FmtText.fmtUnicode {} u).length ≤ 100 := by
  have := FmtText.numeral_length_le 16 true u
  simp [FmtText.fmtUnicode, FmtText.pad]
  omega

theorem toldU (F : Interp) (r : Int) (h0 : 0 ≤ r) (h1 : r ≤ 2147483647) : (FmtStop.textOf (F.told "fmt.Sprintf" [[37, 85], shape21, digits 8 (r % 18446744073709551616).toNat] 0)).size ≤ 1000 := by
  have hs := unicode_short r.toNat
  have h := told_string F (textU r h0 h1) (by omega)
  have e := Go.Kit.textOf_list F.told "fmt.Sprintf" [[37, 85], shape21, digits 8 (r % 18446744073709551616).toNat]
  rw [h] at e
  rw [Lib.size_eq, e]
  omega

set_option maxHeartbeats 1600000 in
theorem named_high (F : Interp) (r : Int) (w : World) (hF : F.told.answers w.tape) (hr : 128 ≤ r) (hr1 : r ≤ 2147483647) :
    Calls Tryf.prog 30 #[.int .i32 r] w fun e w' => Txt e ∧ Below w.heap.size w w' := by
  have hF' := answers_open hF
  have h128 : ¬ (r < 128) := by omega
  have ht := toldU F r (by omega) hr1
  have x1 := call42
  have x2 := guardF
  have x3 := fmtU
  have x4 := fmtUr
  have x5 := op21_85
  go_enter Tryf.func30, Tryf.ntmps30
  go_wp2
  go_ret
  exact ⟨⟨_, rfl, ht⟩, ((Below.refl _ w).alloc (Nat.le_refl _) _).drew⟩

set_option maxHeartbeats 1600000 in
theorem errorf_user (F : Interp) (s t : ByteArray) (w : World) (hF : F.answers w.tape) :
    Calls Tryf.prog 21 #[.string ⟨#[117, 115, 101, 114, 32, 37, 113, 58, 32, 37, 115]⟩, .slice (some ⟨w.heap.size, 0, none⟩) 2 2] (w.alloc (.cells #[.iface 9 (.string s), .iface 9 (.string t)] 20)) fun e w' => Err e ∧ Below w.heap.size w w' := by
  have hF' := answers_open hF
  have x1 := call31
  have x2 := guardF
  have x3 := fmtUser
  have x4 := fmtUserr
  have x5 := op9_113
  have x6 := op9_115
  have x7 := ptr80
  have x8 := elem80
  have x9 := isError80
  go_enter Tryf.func21, Tryf.ntmps21
  go_wp2
  go_ret
  exact ⟨⟨_, rfl⟩, (((Below.refl _ w).alloc (Nat.le_refl _) _).alloc (by simp) _).drew⟩

set_option maxHeartbeats 1600000 in
theorem errorf_object (F : Interp) (s t : ByteArray) (w : World) (hF : F.answers w.tape) :
    Calls Tryf.prog 21 #[.string ⟨#[111, 98, 106, 101, 99, 116, 32, 37, 113, 58, 32, 37, 115]⟩, .slice (some ⟨w.heap.size, 0, none⟩) 2 2] (w.alloc (.cells #[.iface 9 (.string s), .iface 9 (.string t)] 20)) fun e w' => Err e ∧ Below w.heap.size w w' := by
  have hF' := answers_open hF
  have x1 := call31
  have x2 := guardF
  have x3 := fmtObj
  have x4 := fmtObjr
  have x5 := op9_113
  have x6 := op9_115
  have x7 := ptr80
  have x8 := elem80
  have x9 := isError80
  go_enter Tryf.func21, Tryf.ntmps21
  go_wp2
  go_ret
  exact ⟨⟨_, rfl⟩, (((Below.refl _ w).alloc (Nat.le_refl _) _).alloc (by simp) _).drew⟩

set_option maxHeartbeats 1600000 in
theorem errorf_name (F : Interp) (p s t : ByteArray) (w : World) (hF : F.answers w.tape) :
    Calls Tryf.prog 21 #[.string ⟨#[37, 115, 32, 37, 113, 58, 32, 37, 115]⟩, .slice (some ⟨w.heap.size, 0, none⟩) 3 3] (w.alloc (.cells #[.iface 9 (.string p), .iface 9 (.string s), .iface 9 (.string t)] 20)) fun e w' => Err e ∧ Below w.heap.size w w' := by
  have hF' := answers_open hF
  have x1 := call31
  have x2 := guardF
  have x3 := fmtName
  have x4 := fmtNamer
  have x5 := op9_113
  have x6 := op9_115
  have x7 := ptr80
  have x8 := elem80
  have x9 := isError80
  go_enter Tryf.func21, Tryf.ntmps21
  go_wp2
  go_ret
  exact ⟨⟨_, rfl⟩, (((Below.refl _ w).alloc (Nat.le_refl _) _).alloc (by simp) _).drew⟩

end Go.Proofs.Qxb6606413aFmt
