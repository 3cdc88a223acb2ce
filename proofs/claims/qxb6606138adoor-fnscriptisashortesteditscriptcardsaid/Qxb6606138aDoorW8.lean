import Derived.Test.Qxb6606138aDoorW7
import Derived.Test.Qxb6606138aDoorRuns
import Derived.Test.Qxb6606138aDoorFrame2
namespace Go.Proofs.Qxb6606138aDoor
open Go.RowKit

/-- 'keptAt(i)': outside the ops, or a kept line. -/
def keptB (l : List Int) (i : Int) : Bool := decide (i < 0) || (decide ((l.length : Int) ≤ i) || (l.getD i.toNat 0 == 32))

/-- The ops as slide sees them: the variable at V, the row at O, what lies behind the row's length. -/
def opcells (l : List Int) (sp : List Value) : List Value := l.map (Value.int .u8) ++ sp

theorem opcells_get (l : List Int) (sp : List Value) (i : Nat) (h : i < l.length) : (opcells l sp)[i]? = some (.int .u8 (l.getD i 0)) := by
  unfold opcells
  rw [List.getElem?_append_left (by simpa using h)]
  simp [h]

theorem opcells_set (l : List Int) (sp : List Value) (i : Nat) (h : i < l.length) (v : Int) : (opcells l sp).set i (.int .u8 v) = opcells (l.set i v) sp := by
  unfold opcells
  rw [List.set_append_left _ _ (by simpa using h), List.map_set]

set_option maxRecDepth 100000 in
set_option maxHeartbeats 400000 in
theorem keptAt_any (i : Int) (hi : -10000 ≤ i) (hi2 : i ≤ 10000000) (V O cap : Nat) (l : List Int) (sp : List Value) (_hl : l.length ≤ 1048576) (w : World) (hV : w.cell? ⟨V, 0, none⟩ = some (.slice (some ⟨O, 0, none⟩) l.length cap)) (hO : Blk w O 38 (opcells l sp)) :
    Calls Tryd.prog 25 #[.int .i64 i, .pointer (some ⟨V, 0, none⟩)] w fun e w' => e = .returned (.bool (keptB l i)) ∧ w' = w := by
  by_cases h1 : i < 0
  · have e : keptB l i = true := by simp [keptB, h1]
    rw [e]
    go_enter Tryd.func25, Tryd.ntmps25
    go_wp2
    go_ret
    exact ⟨rfl, rfl⟩
  · by_cases h2 : (l.length : Int) ≤ i
    · have e : keptB l i = true := by simp [keptB, h2]
      rw [e]
      go_enter Tryd.func25, Tryd.ntmps25
      go_wp2
      go_ret
      exact ⟨rfl, rfl⟩
    · obtain ⟨j, rfl⟩ : ∃ j : Nat, i = j := ⟨i.toNat, by omega⟩
      have hc : w.cell? ⟨O, j, none⟩ = some (.int .u8 (l.getD j 0)) := hO.cell (opcells_get l sp j (by omega))
      have e : keptB l (j : Int) = (l.getD j 0 == 32) := by
        unfold keptB
        rw [decide_eq_false h1, decide_eq_false h2]
        simp
      rw [e]
      generalize l.getD j 0 = o at hc
      go_enter Tryd.func25, Tryd.ntmps25
      go_wp2
      go_ret
      exact ⟨rfl, rfl⟩

end Go.Proofs.Qxb6606138aDoor
