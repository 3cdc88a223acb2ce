/-
  Seat b6609191aD: bytes.IndexAny at "\r\n": the empty slice, one byte.
-/
import Derived.Test.Qxb6609191aDoorIa
import Derived.Test.Qxb6609191aDoorFrame
import Derived.Lib.OthersKept
import Derived.LoopN
namespace Go.Proofs.Qxb6609191aDoor
open Go.RowKit Go.Lib

theorem shouldUse (n : Int) (w : World) : Calls Tryd.prog 39 #[.int .i64 n] w fun e w' => e = .returned (.bool (decide (8 < n))) ∧ w' = w := by
  go_enter Tryd.func39, Tryd.ntmps39
  go_wp2
  go_ret
  exact ⟨by first | rfl | simp, rfl⟩

/-- The walk of "\r\n", rune by rune. -/
theorem iter_rn (w : World) : ∃ W1 W2,
    (∀ ty, (Instr.next (.pointer (some ⟨w.heap.size, 0, none⟩)) true ty).run Tryd.prog (w.iter ⟨#[13, 10]⟩ 0) = .ok (.tuple #[.bool true, .int .i64 0, .int .i32 13]) W1) ∧
    (∀ ty, (Instr.next (.pointer (some ⟨w.heap.size, 0, none⟩)) true ty).run Tryd.prog W1 = .ok (.tuple #[.bool true, .int .i64 1, .int .i32 10]) W2) ∧
    (∀ ty, (Instr.next (.pointer (some ⟨w.heap.size, 0, none⟩)) true ty).run Tryd.prog W2 = .ok (.tuple #[.bool false]) W2) ∧ Below w.heap.size w W2 := by
  have h0 : (w.iter ⟨#[13, 10]⟩ 0).heap[w.heap.size]? = some (.stringIter ⟨#[13, 10]⟩ 0) := World.iter_heap w _ 0
  have h1 := Lib.iterAt_heap _ w.heap.size _ 0 1 h0
  have h2 := Lib.iterAt_heap _ w.heap.size _ 1 2 h1
  refine ⟨_, _, fun ty => Lib.run_next_ascii_at _ w.heap.size ⟨#[13, 10]⟩ 0 ty h0 (by decide) (by decide), fun ty => Lib.run_next_ascii_at _ w.heap.size ⟨#[13, 10]⟩ 1 ty h1 (by decide) (by decide), fun ty => Lib.run_next_end_at _ w.heap.size ⟨#[13, 10]⟩ 2 ty h2 (by decide), ?_⟩
  exact Lib.below_iterAt (Lib.below_iterAt ((Below.refl _ w).alloc (Nat.le_refl _) _) (k := w.heap.size) (Nat.le_refl _) _ _) (k := w.heap.size) (Nat.le_refl _) _ _

set_option maxHeartbeats 4000000 in
set_option maxRecDepth 100000 in
theorem index_nil (ad : Option Addr) (cap : Nat) (w : World) : Calls Tryd.prog 36 #[.slice ad 0 cap, .string ⟨#[13, 10]⟩] w fun e w' => e = .returned (.int .i64 (-1)) ∧ w' = w := by
  have k39 := shouldUse 0 w
  go_enter Tryd.func36, Tryd.ntmps36
  go_wp2_with (go_at_call 39; refine k39.mono ?_; rintro e w1 ⟨rfl, hw1⟩; rw [hw1]; clear hw1 w1)
  refine wp_loop_rounds 1 ?_
  rw [rounds_succ]
  go_wp2
  go_ret
  exact ⟨rfl, rfl⟩

set_option maxHeartbeats 4000000 in
set_option maxRecDepth 100000 in
theorem index_one (b off cap : Nat) (c : UInt8) (w : World) (hc : w.cell? ⟨b, off, none⟩ = some (.int .u8 (c.toNat : Int))) : Calls Tryd.prog 36 #[.slice (some ⟨b, off, none⟩) 1 cap, .string ⟨#[13, 10]⟩] w fun e w' => e = .returned (.int .i64 (if isE c then 0 else -1)) ∧ Below w.heap.size w w' := by
  have hlt := c.toNat_lt
  by_cases h128 : 128 ≤ c.toNat
  · have hE := isE_high c h128
    obtain ⟨W1, W2, n1, n2, n3, hB⟩ := iter_rn w
    rw [hE]
    go_enter Tryd.func36, Tryd.ntmps36
    go_wp2
    refine wp_loop_rounds 3 ?_
    rw [rounds_succ]
    go_wp2
    rw [rounds_succ]
    go_wp2
    rw [rounds_succ]
    go_wp2
    go_ret
    exact ⟨rfl, hB⟩
  · cases hE : isE c with
    | true =>
      obtain ⟨k, hk0, hk⟩ := ext37_yes c w hE
      go_enter Tryd.func36, Tryd.ntmps36
      go_wp2
      go_ret
      exact ⟨rfl, Below.refl _ _⟩
    | false =>
      have hk := ext37_no c w hE
      go_enter Tryd.func36, Tryd.ntmps36
      go_wp2
      go_ret
      exact ⟨rfl, Below.refl _ _⟩

end Go.Proofs.Qxb6609191aDoor
