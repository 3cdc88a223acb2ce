import Derived.Test.Qxb6606138aDoorW1
namespace Go.Proofs.Qxb6606138aDoor
open Go.RowKit

set_option maxHeartbeats 400000 in
theorem cloneLines_nil (n cap : Nat) (w : World) :
    Calls Tryd.prog 9 #[.slice none n cap] w fun e w' => e = .returned (.slice none 0 0) ∧ w' = w := by
  have hn := fun w => Lib.run_eql_slice_nil (P := Tryd.prog) w 22 9 none n cap 0 0 Tryd.underlying22
  go_enter Tryd.func9, Tryd.ntmps9
  go_wp2
  go_ret
  exact ⟨rfl, rfl⟩

set_option maxHeartbeats 400000 in
theorem cloneLines_some (b off n cap : Nat) (ss : List ByteArray) (hlen : n ≤ 1048576) (w : World) (hc : ∀ i, i < n → w.cell? ⟨b, off + i, none⟩ = some (sv ss i)) :
    Calls Tryd.prog 9 #[.slice (some ⟨b, off, none⟩) n cap] w fun e w' => e = .returned (.slice (some ⟨w.heap.size, 0, none⟩) n n) ∧ Rd w' (some ⟨w.heap.size, 0, none⟩) n (sv ss) ∧ Below w.heap.size w w' := by
  have hn := fun w => Lib.run_eql_slice_nil (P := Tryd.prog) w 22 9 (some ⟨b, off, none⟩) n cap 0 0 Tryd.underlying22
  obtain ⟨i0, hi, hz0, hz1, hz2⟩ := info_parts Tryd.info9
  go_enter Tryd.func9, Tryd.ntmps9
  go_wp2_with (at_make; refine wpList_make_full _ rfl _ _ 22 rfl w.heap.size 9 i0 (.string ⟨#[]⟩) 1 Tryd.underlying22 hi hz0 hz1 _ _ _ _ n rfl rfl rfl rfl (by rw [hz2]; omega) (by unfold maxLen; omega) (Nat.le_refl _) ?_)
  intro w1 hown hg
  have hb1 : Below w.heap.size w w1 := (Below.refl _ _).grown hg (Nat.le_refl _) (fun k h => by cases h)
  have hlen1 : (madeCells #[Value.string ⟨#[]⟩] n).toList.length = n := by simpa using hown.1
  have hB1 := Blk.of_owns hown
  clear hown hg hi hz0 hz1 hz2
  generalize (madeCells #[Value.string ⟨#[]⟩] n).toList = cs0 at hB1 hlen1
  go_wp2
  go_loopw [4] (fun i wr => ∃ (k : Nat) (cs : List Value), k ≤ n ∧ i = .int .i64 k ∧ Blk wr w.heap.size 9 cs ∧ cs.length = n ∧ (∀ j, j < k → cs[j]? = some (sv ss j)) ∧ Below w.heap.size w wr)
    (fun i _ => n - (intOf i).toNat)
  case atStart => exact ⟨0, cs0, Nat.zero_le _, rfl, hB1, hlen1, fun j h => absurd h (by omega), hb1⟩
  case round =>
    obtain ⟨k, cs, hk, rfl, hB, hcl, hcs, hbl⟩ := hrel
    clear hB1 hb1 hlen1
    by_cases hlt : k < n
    · have h1 : wr.cell? ⟨b, off + k, none⟩ = some (sv ss k) := (hbl.cell (World.block_lt_of_cell? _ _ (hc k hlt))).trans (hc k hlt)
      have h2 := hB.frozen k
      have h3 : wr.cell? ⟨w.heap.size, k, none⟩ = some (cs.getD k (.bool false)) := hB.cell (by simp [hlt, hcl])
      have HB : Hid (Blk wr w.heap.size 9 cs) := hB
      have Hcs : Hid (∀ j, j < k → cs[j]? = some (sv ss j)) := hcs
      unfold sv at h1
      clear hB hcs hc
      have Hs : Hid (sv ss k = .string (ss.getD k ByteArray.empty)) := rfl
      generalize ss.getD k ByteArray.empty = s at h1 Hs
      generalize cs.getD k (.bool false) = v0 at h3
      go_wp2
      go_roundw
      case rel =>
        refine ⟨k + 1, cs.set k (.string s), by omega, by go_num, HB.out.set _ _, by simpa using hcl, fun j hj => ?_, hbl.setCell (Nat.le_refl _) _⟩
        rw [List.getElem?_set]
        by_cases e : k = j
        · subst e; simp [hcl, hlt, Hs.out]
        · simp only [e, if_false]; exact Hcs.out j (by omega)
      case measure => simp [intOf]; omega
    · go_wp2
      go_ret
      exact ⟨rfl, Rd.of_blk hB (fun i hi => hcs i (by omega)), hbl⟩

theorem cloneLines_any (a : Option Addr) (n cap : Nat) (ss : List ByteArray) (hlen : n ≤ 1048576) (w : World) (hc : Rd w a n (sv ss)) (ha : a = none → n = 0) (hs : ∀ a', a = some a' → a'.spot = none) :
    Calls Tryd.prog 9 #[.slice a n cap] w fun e w' => (∃ a', e = .returned (.slice a' n n) ∧ Rd w' a' n (sv ss)) ∧ Below w.heap.size w w' := by
  match a with
  | none =>
    obtain rfl := ha rfl
    refine (cloneLines_nil 0 cap w).mono ?_
    rintro e w' ⟨rfl, rfl⟩
    exact ⟨⟨none, rfl, Or.inl rfl⟩, Below.refl _ _⟩
  | some ⟨b, off, spot⟩ =>
    obtain rfl : spot = none := hs _ rfl
    refine (cloneLines_some b off n cap ss hlen w ?_).mono ?_
    · intro i hi
      obtain ⟨b', off', h1, h2⟩ := hc.at (by omega)
      simp only [Option.some.injEq, Addr.mk.injEq, and_true] at h1
      obtain ⟨rfl, rfl⟩ := h1
      exact h2 i hi
    · rintro e w' ⟨rfl, h1, h2⟩
      exact ⟨⟨_, rfl, h1⟩, h2⟩

/-- 'tdOpBytes': a fresh copy. -/
theorem opBytes_any (a : Option Addr) (n cap : Nat) (l : List Int) (hlen : n ≤ 1048576) (w : World) (hc : Rd w a n (bv l)) :
    Calls Tryd.prog 11 #[.slice a n cap] w fun e w' => (∃ a', e = .returned (.slice a' n n) ∧ Rd w' a' n (bv l)) ∧ Below w.heap.size w w' := by
  obtain ⟨i0, hi, hz0, hz1, hz2⟩ := info_parts Tryd.info5
  go_enter Tryd.func11, Tryd.ntmps11
  go_wp2_with (at_make; refine wpList_make_full _ rfl _ _ 23 rfl w.heap.size 5 i0 (.int .u8 0) 1 Tryd.underlying23 hi hz0 hz1 _ _ _ _ n rfl rfl rfl rfl (by rw [hz2]; omega) (by unfold maxLen; omega) (Nat.le_refl _) ?_)
  intro w1 hown hg
  have hb1 : Below w.heap.size w w1 := (Below.refl _ _).grown hg (Nat.le_refl _) (fun k h => by cases h)
  have hB1 : Ib w1 w.heap.size 5 .u8 (List.replicate n 0) := Ib.of_made (by simpa using hown)
  clear hown hg hi hz0 hz1 hz2
  go_wp2
  go_loopw [4] (fun i wr => ∃ (k : Nat) (cs : List Int), k ≤ n ∧ i = .int .i64 k ∧ Ib wr w.heap.size 5 .u8 cs ∧ cs.length = n ∧ (∀ j, j < k → cs.getD j 0 = l.getD j 0) ∧ Below w.heap.size w wr)
    (fun i _ => n - (intOf i).toNat)
  case atStart => exact ⟨0, _, Nat.zero_le _, rfl, hB1, by simp, fun j h => absurd h (by omega), hb1⟩
  case round =>
    obtain ⟨k, cs, hk, rfl, hB, hcl, hcs, hbl⟩ := hrel
    clear hB1 hb1
    by_cases hlt : k < n
    · obtain ⟨b, off, rfl, hc'⟩ := (hc.below hbl (Nat.le_refl _)).at (by omega)
      have h1 := hc' k hlt
      have h2 := hB.frozen k
      have h3 := hB.cell (i := k) (by omega)
      have HB : Hid (Ib wr w.heap.size 5 .u8 cs) := hB
      have Hcs : Hid (∀ j, j < k → cs.getD j 0 = l.getD j 0) := hcs
      unfold bv at h1
      clear hB hcs hc hc'
      have Hs : Hid (∃ o, l.getD k 0 = o) := ⟨_, rfl⟩
      generalize hs : l.getD k 0 = s at h1
      have Hs : Hid (l.getD k 0 = s) := hs
      generalize cs.getD k 0 = v0 at h3
      clear hs
      go_wp2
      go_roundw
      case rel =>
        refine ⟨k + 1, cs.set k s, by omega, by go_num, HB.out.set _ _, by simpa using hcl, fun j hj => ?_, hbl.setCell (Nat.le_refl _) _⟩
        rw [getD_set _ _ _ _ (by omega)]
        by_cases e : k = j
        · subst e; simp only [if_true]; exact Hs.out.symm
        · simp only [e, if_false]; exact Hcs.out j (by omega)
      case measure => simp [intOf]; omega
    · go_wp2
      go_ret
      refine ⟨⟨_, rfl, Rd.of_blk hB (fun i hi => ?_)⟩, hbl⟩
      have := hcs i (by omega)
      unfold bv
      rw [← this]
      simp [hcl, hi]

end Go.Proofs.Qxb6606138aDoor
