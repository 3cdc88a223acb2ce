/-
  Seat b6606413aF: strconv.QuoteRune at an ASCII rune that a name cannot hold: it returns some text.
-/
import Derived.Test.Qxb6606413aFmtShelf
import Derived.Lib.BufSteps
import Derived.Lib.QuoteHex
import Derived.Laws.BytesArg
import Derived.WalkKit
import Derived.BigCall
namespace Go.Proofs.Qxb6606413aFmt
open Go.RowKit Go.Lib

/-- A buffer of bytes that the call owns. -/
def Buf (B : Nat) (v : Value) (n : Nat) (W0 w : World) : Prop := ∃ zs : List Int, zs.length = n ∧ Lib.OwnBuf B 5 v n (zs.map (Value.int .u8)) W0 w

theorem hbyte : (Tryf.prog.info? 5).map (fun i => (i.zero, i.size, i.bytes)) = some (some (.int .u8 0), 1, 1) := by kernel_rfl

theorem Buf.nil (w : World) : Buf w.heap.size (.slice none 0 0) 0 w w := ⟨[], rfl, World.ownsRowF_nil _ _ _ _, Below.refl _ _, Nat.le_refl _⟩

theorem Buf.below {B : Nat} {v : Value} {n : Nat} {W0 w : World} (h : Buf B v n W0 w) : Below B W0 w := by
  obtain ⟨_, _, h⟩ := h
  exact h.2.1

/-- The value is a byte. -/
def isByte (x : Value) : Prop := ∃ c, x = .int .u8 c
def byteOf (x : Value) : Int := match x with
  | .int _ c => c
  | _ => 0

theorem Buf.of {B : Nat} {v : Value} {n : Nat} {L : List Value} {W0 w : World} (h : Lib.OwnBuf B 5 v n L W0 w) (hL : ∀ x ∈ L, isByte x) : Buf B v n W0 w := by
  have e : (L.map byteOf).map (Value.int .u8) = L := by
    rw [List.map_map]
    conv => rhs; rw [← List.map_id L]
    apply List.map_congr_left
    intro x hx
    obtain ⟨c, rfl⟩ := hL x hx
    rfl
  refine ⟨L.map byteOf, ?_, by rw [e]; exact h⟩
  have := h.1.1
  simpa using this

theorem bytes_map (zs : List Int) : ∀ x ∈ zs.map (Value.int .u8), isByte x := by
  intro x hx
  obtain ⟨c, _, rfl⟩ := List.mem_map.1 hx
  exact ⟨c, rfl⟩
theorem bytes_str (s : ByteArray) : ∀ x ∈ Lib.strCells s, isByte x := by
  intro x hx
  obtain ⟨c, _, rfl⟩ := List.mem_map.1 hx
  exact ⟨_, rfl⟩
theorem bytes_one (c : Int) : ∀ x ∈ [Value.int .u8 c], isByte x := by
  intro x hx
  exact ⟨c, by simpa using hx⟩
theorem bytes_app {L M : List Value} (h : ∀ x ∈ L, isByte x) (k : ∀ x ∈ M, isByte x) : ∀ x ∈ L ++ M, isByte x := by
  intro x hx
  rcases List.mem_append.1 hx with h1 | h1
  · exact h x h1
  · exact k x h1

def pr (r : Int) : Bool := decide (32 ≤ r ∧ r < 127)

set_option maxHeartbeats 1600000 in
theorem isPrint_ascii (r : Int) (w : World) (h0 : 0 ≤ r) (h1 : r < 128) :
    Calls Tryf.prog 54 #[.int .i32 r] w fun e w' => e = .returned (.bool (pr r)) ∧ w' = w := by
  obtain ⟨b, hb⟩ : ∃ b, pr r = b := ⟨_, rfl⟩
  rw [hb]
  unfold pr at hb
  have H := hb
  clear hb
  go_enter Tryf.func54, Tryf.ntmps54
  go_big_wp2_with (fail)
  all_goals (go_ret; refine ⟨?_, rfl⟩; rw [← H]; simp; try omega)

set_option maxHeartbeats 1600000 in
set_option maxRecDepth 100000 in
theorem appendRune_ascii (B : Nat) (v : Value) (n : Nat) (r : Int) (W0 w : World) (h0 : 0 ≤ r) (h1 : r < 128) (hb : Buf B v n W0 w) (hn : n ≤ 1000) :
    Calls Tryf.prog 56 #[v, .int .i32 r] w fun e w' => ∃ v', e = .returned v' ∧ Buf B v' (n + 1) W0 w' := by
  obtain ⟨i0, hi, hz0, hz1, hz2⟩ := info_parts hbyte
  obtain ⟨zs, _, hb⟩ := hb
  have hw8 : IntKind.u8.wrap r = r := by
    have e : r % 256 = r := Int.emod_eq_of_lt (by omega) (by omega)
    simp [IntKind.wrap, IntKind.bits, IntKind.signed, e]
  have hu32 : IntKind.u32.wrap r = r := by
    have e : r % 4294967296 = r := Int.emod_eq_of_lt (by omega) (by omega)
    simp [IntKind.wrap, IntKind.bits, IntKind.signed, e]
  go_enter Tryf.func56, Tryf.ntmps56
  go_wp2_with (at_builtin; go_must (refine Lib.wpList_append_byte rfl _ _ 90 rfl B 5 i0 Tryf.underlying90 hi hz0 hz1 hz2 _ _ _ rfl W0 _ _ (by assumption) rfl (by omega) ?_; intro v' w' hb'))
  go_ret
  exact ⟨_, rfl, Buf.of hb' (bytes_app (bytes_map _) (bytes_one _))⟩

/-- An ASCII rune that a name cannot hold. -/
def asciiBad (r : Int) : Prop := r = 58 ∨ r = 35 ∨ r = 42 ∨ r = 32 ∨ (0 ≤ r ∧ r < 32) ∨ r = 127

set_option maxHeartbeats 4000000 in
set_option maxRecDepth 1000000 in
theorem escaped_print (B : Nat) (v : Value) (n : Nat) (r : Int) (W0 w : World) (hb : Buf B v n W0 w) (hn : n ≤ 100) (hr : r = 58 ∨ r = 35 ∨ r = 42 ∨ r = 32) :
    Calls Tryf.prog 53 #[v, .int .i32 r, .int .u8 39, .bool false, .bool false] w fun e w' => ∃ v' n', e = .returned v' ∧ n' ≤ n + 10 ∧ Buf B v' n' W0 w' ∧ 0 < n' := by
  have cP : Calls Tryf.prog 54 #[.int .i32 r] w fun e w' => e = .returned (.bool true) ∧ w' = w := by
    have e : pr r = true := by rcases hr with rfl | rfl | rfl | rfl <;> decide
    rw [← e]; exact isPrint_ascii r w (by omega) (by omega)
  have cA := appendRune_ascii B v n r W0 w (by omega) (by omega) hb (by omega)
  have hq1 : (r == 39) = false := by simp; omega
  have hq2 : (r == 92) = false := by simp; omega
  clear hr
  go_enter Tryf.func53, Tryf.ntmps53
  go_big_wp2_with (first | (go_at_call 54; refine cP.mono ?_; rintro e w1 ⟨rfl, rfl⟩) | (go_at_call 56; refine cA.mono ?_; rintro e w2 ⟨v2, rfl, hb2⟩))
  go_ret
  exact ⟨_, n + 1, rfl, by omega, hb2, by omega⟩

set_option maxHeartbeats 4000000 in
set_option maxRecDepth 1000000 in
theorem escaped_named (B : Nat) (v : Value) (n : Nat) (r : Int) (W0 w : World) (hb : Buf B v n W0 w) (hn : n ≤ 100) (hr : r = 7 ∨ r = 8 ∨ r = 12 ∨ r = 10 ∨ r = 13 ∨ r = 9 ∨ r = 11) :
    Calls Tryf.prog 53 #[v, .int .i32 r, .int .u8 39, .bool false, .bool false] w fun e w' => ∃ v' n', e = .returned v' ∧ n' ≤ n + 10 ∧ Buf B v' n' W0 w' ∧ 0 < n' := by
  obtain ⟨i0, hi, hz0, hz1, hz2⟩ := info_parts hbyte
  have cP : Calls Tryf.prog 54 #[.int .i32 r] w fun e w' => e = .returned (.bool false) ∧ w' = w := by
    have e : pr r = false := by rcases hr with rfl | rfl | rfl | rfl | rfl | rfl | rfl <;> decide
    rw [← e]; exact isPrint_ascii r w (by omega) (by omega)
  obtain ⟨zs, _, hb⟩ := hb
  go_enter Tryf.func53, Tryf.ntmps53
  rcases hr with rfl | rfl | rfl | rfl | rfl | rfl | rfl
  all_goals (
    go_big_wp2_with (first | (go_at_call 54; refine cP.mono ?_; rintro e w1 ⟨rfl, rfl⟩) | (at_builtin; refine Lib.wpList_append_text rfl _ _ 90 9 rfl B 5 i0 Tryf.underlying90 Tryf.underlying9 hi hz0 hz1 hz2 _ _ _ rfl W0 (by assumption) _ rfl (by simp only [Lib.size_two]; omega) ?_; intro _ _ hb))
    go_ret
    exact ⟨_, _, rfl, by simp only [Lib.size_two]; omega, Buf.of hb (bytes_app (bytes_map _) (bytes_str _)), by simp only [Lib.size_two]; omega⟩)

set_option maxHeartbeats 4000000 in
set_option maxRecDepth 1000000 in
theorem escaped_hex (B : Nat) (v : Value) (n : Nat) (r : Int) (W0 w : World) (hb : Buf B v n W0 w) (hn : n ≤ 100) (hx : (0 ≤ r ∧ r < 32) ∨ r = 127) (hr : ¬ (r = 7 ∨ r = 8 ∨ r = 12 ∨ r = 10 ∨ r = 13 ∨ r = 9 ∨ r = 11)) :
    Calls Tryf.prog 53 #[v, .int .i32 r, .int .u8 39, .bool false, .bool false] w fun e w' => ∃ v' n', e = .returned v' ∧ n' ≤ n + 10 ∧ Buf B v' n' W0 w' ∧ 0 < n' := by
  obtain ⟨i0, hi, hz0, hz1, hz2⟩ := info_parts hbyte
  have cP : Calls Tryf.prog 54 #[.int .i32 r] w fun e w' => e = .returned (.bool false) ∧ w' = w := by
    have e : pr r = false := by simp [pr]; omega
    rw [← e]; exact isPrint_ascii r w (by omega) (by omega)
  obtain ⟨zs, _, hb⟩ := hb
  have hr0 : 0 ≤ r := by omega
  obtain ⟨k, rfl⟩ := Int.eq_ofNat_of_zero_le hr0
  have hk : k < 128 := by omega
  have hw8 : IntKind.u8.wrap (k : Int) = (k : Int) := by
    have e : (k : Int) % 256 = k := Int.emod_eq_of_lt (by omega) (by omega)
    simp [IntKind.wrap, IntKind.bits, IntKind.signed, e]
  have q1 : ((k : Int) == 39) = false := by simp; omega
  have q2 : ((k : Int) == 92) = false := by simp; omega
  have b7 : ((k : Int) == 7) = false := by simp; omega
  have b8 : ((k : Int) == 8) = false := by simp; omega
  have b12 : ((k : Int) == 12) = false := by simp; omega
  have b10 : ((k : Int) == 10) = false := by simp; omega
  have b13 : ((k : Int) == 13) = false := by simp; omega
  have b9 : ((k : Int) == 9) = false := by simp; omega
  have b11 : ((k : Int) == 11) = false := by simp; omega
  have h127 : (((k : Int) == 127) = true ∧ ¬ ((k : Int) < 32)) ∨ (((k : Int) == 127) = false ∧ (k : Int) < 32) := by
    simp
    omega
  clear hx hr
  rcases h127 with ⟨c1, c2⟩ | ⟨c1, c2⟩
  all_goals (
    go_enter Tryf.func53, Tryf.ntmps53
    go_big_wp2_with (first | (go_at_call 54; refine cP.mono ?_; rintro e w1 ⟨rfl, rfl⟩) | (at_builtin; first
        | (refine Lib.wpList_append_byte rfl _ _ 90 rfl B 5 i0 Tryf.underlying90 hi hz0 hz1 hz2 _ _ _ rfl W0 _ _ (by assumption) rfl (by first | omega | (simp only [Lib.size_two]; omega)) ?_; intro _ _ hb)
        | (refine Lib.wpList_append_text rfl _ _ 90 9 rfl B 5 i0 Tryf.underlying90 Tryf.underlying9 hi hz0 hz1 hz2 _ _ _ rfl W0 (by assumption) _ rfl (by first | omega | (simp only [Lib.size_two]; omega)) ?_; intro _ _ hb)))
    go_ret
    exact ⟨_, _, rfl, by simp only [Lib.size_two]; omega, Buf.of hb (bytes_app (bytes_app (bytes_app (bytes_map _) (bytes_str _)) (bytes_one _)) (bytes_one _)), by omega⟩)

theorem escaped (B : Nat) (v : Value) (n : Nat) (r : Int) (W0 w : World) (hb : Buf B v n W0 w) (hn : n ≤ 100) (hr : asciiBad r) :
    Calls Tryf.prog 53 #[v, .int .i32 r, .int .u8 39, .bool false, .bool false] w fun e w' => ∃ v' n', e = .returned v' ∧ n' ≤ n + 10 ∧ Buf B v' n' W0 w' ∧ 0 < n' := by
  unfold asciiBad at hr
  by_cases h1 : r = 58 ∨ r = 35 ∨ r = 42 ∨ r = 32
  · exact escaped_print B v n r W0 w hb hn h1
  · by_cases h2 : r = 7 ∨ r = 8 ∨ r = 12 ∨ r = 10 ∨ r = 13 ∨ r = 9 ∨ r = 11
    · exact escaped_named B v n r W0 w hb hn h2
    · exact escaped_hex B v n r W0 w hb hn (by omega) h2

theorem Buf.cells {B : Nat} {v : Value} {n : Nat} {W0 w : World} (h : Buf B v n W0 w) (hn : 0 < n) :
    ∃ (g cap : Nat) (zs : List Int), v = .slice (some ⟨g, 0, none⟩) n cap ∧ zs.length = n ∧ ∀ i, i < n → w.cell? ⟨g, 0 + i, none⟩ = some (.int .u8 (zs.getD i 0)) := by
  obtain ⟨zs, hz, h⟩ := h
  rcases h.1.2 with ⟨_, h0⟩ | ⟨g, cap, cur, fz, rfl, _⟩
  · omega
  · refine ⟨g, cap, zs, rfl, hz, fun i hi => ?_⟩
    have := h.1.cells (g := g) (by simp [Value.ownBlock]) i (.int .u8 (zs.getD i 0)) (by simp [List.getD, List.getElem?_eq_getElem (show i < zs.length by omega)])
    by_cases hi0 : i = 0 <;> simpa [Addr.add, hi0] using this

set_option maxHeartbeats 1600000 in
set_option maxRecDepth 100000 in
theorem quoted (r : Int) (w : World) (hr : asciiBad r) :
    Calls Tryf.prog 49 #[.slice none 0 0, .int .i32 r, .int .u8 39, .bool false, .bool false] w fun e w' => ∃ v' n', e = .returned v' ∧ Buf w.heap.size v' n' w w' ∧ 0 < n' ∧ n' ≤ 100 := by
  obtain ⟨i0, hi, hz0, hz1, hz2⟩ := info_parts hbyte
  have cV : ∀ w1, Calls Tryf.prog 52 #[.int .i32 r] w1 fun e w' => e = .returned (.bool true) ∧ w' = w1 := fun w1 => by
    have e : Lib.validRune r = true := by unfold asciiBad at hr; simp [Lib.validRune]; omega
    have := Tryf.utf8_ValidRune r w1
    rw [e] at this
    exact this
  have cE : ∀ v1 n1 w1, Buf w.heap.size v1 n1 w w1 → n1 ≤ 100 → Calls Tryf.prog 53 #[v1, .int .i32 r, .int .u8 39, .bool false, .bool false] w1 fun e w' => ∃ v' n', e = .returned v' ∧ n' ≤ n1 + 10 ∧ Buf w.heap.size v' n' w w' ∧ 0 < n' := fun v1 n1 w1 hb hn => escaped _ v1 n1 r w w1 hb hn hr
  have hb0 := Buf.nil w
  obtain ⟨zs0, _, hb0⟩ := hb0
  go_enter Tryf.func49, Tryf.ntmps49
  go_wp2_with (first | (go_at_call 52; refine (cV _).mono ?_; rintro e w1 ⟨rfl, rfl⟩) | (go_at_call 53; refine (cE _ _ _ (Buf.of hb1 (bytes_app (bytes_map _) (bytes_one _))) (by omega)).mono ?_; rintro e w2 ⟨v2, n2, rfl, hn2, ⟨zs2, _, hb2⟩, _⟩) | (at_builtin; first
      | (refine Lib.wpList_append_byte rfl _ _ 90 rfl _ 5 i0 Tryf.underlying90 hi hz0 hz1 hz2 _ _ _ rfl w _ _ hb2 rfl (by omega) ?_; intro _ _ hb3)
      | (refine Lib.wpList_append_byte rfl _ _ 90 rfl _ 5 i0 Tryf.underlying90 hi hz0 hz1 hz2 _ _ _ rfl w _ _ hb0 rfl (by omega) ?_; intro v1 w1 hb1)))
  go_ret
  exact ⟨_, _, rfl, Buf.of hb3 (bytes_app (bytes_map _) (bytes_one _)), by omega, by omega⟩
end Go.Proofs.Qxb6606413aFmt
