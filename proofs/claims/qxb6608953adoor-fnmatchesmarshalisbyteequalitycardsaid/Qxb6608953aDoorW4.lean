/-
  Seat b6608953aD: zzAppendRune, zzSanitize.
-/
import Derived.Test.Qxb6608953aDoorW3
import Derived.BigCall
namespace Go.Proofs.Qxb6608953aDoor
open Go.RowKit Go.Lib

theorem or128 (x : Int) (h0 : 0 ≤ x) (h1 : x < 2147483648) : bits .or .i32 128 (bits .and .i32 x 63) = 128 + x % 64 := by
  have e := bits_mask .i32 31 (by decide) wraps_i32 6 (by decide) x h0 h1
  have e' : bits .and .i32 x 63 = x % 64 := e
  rw [e']
  exact i32_or6 128 (x % 64) (by omega) (by omega) (by omega) (by omega) (by omega)
theorem or224 (y : Int) (h0 : 0 ≤ y) (h1 : y < 16) : bits .or .i32 224 y = 224 + y :=
  bits_join .i32 31 (by decide) wraps_i32 4 224 y (by omega) (by decide) (by decide) h0 (by omega) (by omega)

/-- The call has returned a buffer that holds l. -/
def Rt (B : Nat) (W0 : World) (l : List UInt8) (e : Ending) (w : World) : Prop := ∃ v, e = .returned v ∧ Bf B W0 v l w

set_option maxHeartbeats 1600000 in
set_option maxRecDepth 100000 in
theorem appendRune_one (B : Nat) (W0 w : World) (v : Value) (l : List UInt8) (n : Nat) (hn : n < 128) (hb : Bf B W0 v l w) (hl : l.length ≤ 1000000000) :
    Calls Tryd.prog 20 #[v, .int .i32 n] w fun e w' => Rt B W0 (l ++ enc n) e w' := by
  obtain ⟨i0, hi, hz0, hz1, hz2⟩ := info_parts Tryd.info5
  have HB := hide hb
  clear hb
  have he : enc n = [UInt8.ofNat n] := by unfold enc; rw [if_pos hn]
  rw [he]
  have hv : (UInt8.ofNat n).toNat = n := by rw [UInt8.toNat_ofNat']; omega
  go_enter Tryd.func20, Tryd.ntmps20
  go_wp2_with (at_builtin; refine wpList_bf_new rfl _ _ 22 rfl i0 Tryd.underlying22 hi hz0 hz1 hz2 B W0 w v l [UInt8.ofNat n] _ HB.out rfl rfl (by simp [bv, hv]) (by simp; omega) ?_; intro v1 w1 hb1; have HB1 := hide hb1; clear hb1)
  go_ret
  exact ⟨_, rfl, HB1.out⟩

set_option maxHeartbeats 1600000 in
set_option maxRecDepth 100000 in
theorem appendRune_two (B : Nat) (W0 w : World) (v : Value) (l : List UInt8) (n : Nat) (hn : 128 ≤ n) (hn2 : n < 2048) (hb : Bf B W0 v l w) (hl : l.length ≤ 1000000000) :
    Calls Tryd.prog 20 #[v, .int .i32 n] w fun e w' => Rt B W0 (l ++ enc n) e w' := by
  obtain ⟨i0, hi, hz0, hz1, hz2⟩ := info_parts Tryd.info5
  have HB := hide hb
  have HX := hide (or128 n (by omega) (by omega))
  clear hb
  go_enter Tryd.func20, Tryd.ntmps20
  have he : enc n = [UInt8.ofNat (192 + n / 64), UInt8.ofNat (128 + n % 64)] := by unfold enc; rw [if_neg (by omega), if_pos hn2]
  rw [he]
  have hv1 : (UInt8.ofNat (192 + n / 64)).toNat = 192 + n / 64 := by rw [UInt8.toNat_ofNat']; omega
  have hv2 : (UInt8.ofNat (128 + n % 64)).toNat = 128 + n % 64 := by rw [UInt8.toNat_ofNat']; omega
  go_wp2_with (at_builtin; refine wpList_bf_new rfl _ _ 22 rfl i0 Tryd.underlying22 hi hz0 hz1 hz2 B W0 w v l [UInt8.ofNat (192 + n / 64), UInt8.ofNat (128 + n % 64)] _ HB.out rfl rfl (by simp only [bv, List.map_cons, List.map_nil, HX.out, hv1, hv2]; congr 4 <;> omega) (by simp; omega) ?_; intro v1 w1 hb1; have HB1 := hide hb1; clear hb1)
  go_ret
  exact ⟨_, rfl, HB1.out⟩

set_option maxHeartbeats 1600000 in
set_option maxRecDepth 100000 in
theorem appendRune_three (B : Nat) (W0 w : World) (v : Value) (l : List UInt8) (n : Nat) (hn : 2048 ≤ n) (hn2 : n < 65536) (hb : Bf B W0 v l w) (hl : l.length ≤ 1000000000) :
    Calls Tryd.prog 20 #[v, .int .i32 n] w fun e w' => Rt B W0 (l ++ enc n) e w' := by
  obtain ⟨i0, hi, hz0, hz1, hz2⟩ := info_parts Tryd.info5
  have HB := hide hb
  clear hb
  have he : enc n = [UInt8.ofNat (224 + n / 4096), UInt8.ofNat (128 + n / 64 % 64), UInt8.ofNat (128 + n % 64)] := by unfold enc; rw [if_neg (by omega), if_neg (by omega)]
  rw [he]
  have hv1 : (UInt8.ofNat (224 + n / 4096)).toNat = 224 + n / 4096 := by rw [UInt8.toNat_ofNat']; omega
  have hv2 : (UInt8.ofNat (128 + n / 64 % 64)).toNat = 128 + n / 64 % 64 := by rw [UInt8.toNat_ofNat']; omega
  have hv3 : (UInt8.ofNat (128 + n % 64)).toNat = 128 + n % 64 := by rw [UInt8.toNat_ofNat']; omega
  have HX : Hid (bits .or .i32 128 (bits .and .i32 (n : Int) 63) % 256 = ((UInt8.ofNat (128 + n % 64)).toNat : Int)) := hide (by rw [or128 n (by omega) (by omega), hv3]; omega)
  have HY : Hid (bits .or .i32 128 (bits .and .i32 ((n : Int) / 64) 63) % 256 = ((UInt8.ofNat (128 + n / 64 % 64)).toNat : Int)) := hide (by rw [or128 _ (by omega) (by omega), hv2]; omega)
  have HZ : Hid (bits .or .i32 224 ((n : Int) / 4096) % 256 = ((UInt8.ofNat (224 + n / 4096)).toNat : Int)) := hide (by rw [or224 _ (by omega) (by omega), hv1]; omega)
  clear hv1 hv2 hv3 he
  go_enter Tryd.func20, Tryd.ntmps20
  go_wp2_with (at_builtin; refine wpList_bf_new rfl _ _ 22 rfl i0 Tryd.underlying22 hi hz0 hz1 hz2 B W0 w v l [UInt8.ofNat (224 + n / 4096), UInt8.ofNat (128 + n / 64 % 64), UInt8.ofNat (128 + n % 64)] _ HB.out rfl rfl (by simp only [bv, List.map_cons, List.map_nil, HX.out, HY.out, HZ.out]) (by simp; omega) ?_; intro v1 w1 hb1; have HB1 := hide hb1; clear hb1)
  go_ret
  exact ⟨_, rfl, HB1.out⟩

theorem appendRune (B : Nat) (W0 w : World) (v : Value) (l : List UInt8) (n : Nat) (hn : n < 65536) (hb : Bf B W0 v l w) (hl : l.length ≤ 1000000000) :
    Calls Tryd.prog 20 #[v, .int .i32 n] w fun e w' => Rt B W0 (l ++ enc n) e w' := by
  by_cases h1 : n < 128
  · exact appendRune_one B W0 w v l n h1 hb hl
  by_cases h2 : n < 2048
  · exact appendRune_two B W0 w v l n (by omega) h2 hb hl
  · exact appendRune_three B W0 w v l n (by omega) hn hb hl

end Go.Proofs.Qxb6608953aDoor
