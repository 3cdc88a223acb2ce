/-
  Seat b6609191aD: bytes.IndexAny at "\r\n": more than eight bytes; the three roads under one statement.
-/
import Derived.Test.Qxb6609191aDoorIc
import Derived.Test.Qxb6609191aDoorAs
import Derived.Deep.WholeRow
namespace Go.Proofs.Qxb6609191aDoor
open Go.RowKit Go.Lib

set_option maxHeartbeats 8000000 in
set_option maxRecDepth 1000000 in
theorem index_long (x : Option Nat) (v : Value) (p : List UInt8) (w : World) (hr : Rb w x v p) (h8 : 8 < p.length) (hl : p.length ≤ 4194304) :
    Calls Tryd.prog 36 #[v, .string ⟨#[13, 10]⟩] w fun e w' => e = .returned (.int .i64 (firstE p)) ∧ Below w.heap.size w w' := by
  obtain ⟨b, off, cap, rfl, hcap, hxb, ⟨cur, hblk⟩, hcell⟩ := hr.at (fun h => by rw [h] at h8; simp at h8)
  have k39 := shouldUse p.length w
  rw [decide_eq_true (by omega)] at k39
  have hM := Tryd.bytes_makeASCIISet w
  have HC := Shut.mk hcell
  clear hcell hr
  have hn1 : ((p.length : Int) == 1) = false := beq_eq_false_iff_ne.2 (by omega)
  have hb0 := Shut.mk (lt_of_heap hblk)
  clear hblk
  have hsz := Lib.setCells_size [13, 10]
  have hsc : (storeCells ⟨w.heap.size + 1, 0, none⟩ (Lib.setCells [13, 10]).toList 0).run Tryd.prog ((w.alloc (.cells (Lib.setCells [13, 10]) 54)).alloc (.cells (Array.replicate 256 (.bool false)) 54)) = .ok () ((w.alloc (.cells (Lib.setCells [13, 10]) 54)).alloc (.cells (Lib.setCells [13, 10]) 54)) := by
    have := run_storeCells_new (P := Tryd.prog) (w.alloc (.cells (Lib.setCells [13, 10]) 54)) 54 (Array.replicate 256 (.bool false)) (Lib.setCells [13, 10]) (by rw [Lib.setCells_size]; exact (zero_of_info Tryd.info54).2) (by rw [Lib.setCells_size, Array.size_replicate]) (Lib.setCells_one _)
    simpa using this
  have hcellAt : ∀ y : UInt8, ((w.alloc (.cells (Lib.setCells [13, 10]) 54)).alloc (.cells (Lib.setCells [13, 10]) 54)).cell? ⟨w.heap.size + 1, y.toNat, none⟩ = some (.bool (isE y)) := fun y => by
    rw [World.cell?_alloc_at _ _ _ _ (by simp), Lib.setCells_at, contains_isE]
  have HS := Shut.mk hcellAt
  clear hcellAt
  have hv54 := (zero_of_info Tryd.info54).1
  go_enter Tryd.func36, Tryd.ntmps36
  go_wp2_with (first
    | (go_at_call 39; refine k39.mono ?_; rintro e w1 ⟨rfl, hw1⟩; rw [hw1]; clear hw1 w1)
    | (go_at_call 40; refine hM.mono ?_; rintro e w1 ⟨rfl, hw1⟩; rw [hw1]; clear hw1 w1))
  have hB : Below w.heap.size w ((w.alloc (.cells (Lib.setCells [13, 10]) 54)).alloc (.cells (Lib.setCells [13, 10]) 54)) := ((Below.refl _ _).alloc (Nat.le_refl _) _).alloc (by simp) _
  clear k39 hM hsc hv54 hsz hn1
  generalize hW : (w.alloc (.cells (Lib.setCells [13, 10]) 54)).alloc (.cells (Lib.setCells [13, 10]) 54) = W at hB HS ⊢
  clear hW
  refine wp_loop_ghost_k (fun g a w' => Fr a 129 ∧ sl a 60 = .slice (some ⟨b, off, none⟩) p.length cap ∧ sl a 61 = .int .i64 p.length ∧ sl a 7 = .pointer (some ⟨w.heap.size + 1, 0, none⟩) ∧ w' = W ∧ ∃ i : Nat, sl a 62 = .int .i64 i ∧ g = p.length - i ∧ i ≤ p.length ∧ Before p i) p.length ?_ ?_
  · exact ⟨⟨rfl, rfl⟩, rfl, rfl, rfl, rfl, 0, rfl, by omega, by omega, Before.zero p⟩
  rintro g a wr ⟨hf, s0, s1, s7, rfl, i, s12, rfl, hip, hbe⟩ J1 K1 hJ1 hK1
  obtain ⟨u, hu, ha⟩ := frame129 a hf
  rw [hu] at s0 s1 s7 s12
  subst ha
  clear hf hu
  simp only [s0, s1, s7, s12]
  clear s0 s1 s7 s12
  have BE := Shut.mk hbe
  clear hbe
  by_cases hi : i < p.length
  case neg =>
    have hF := Shut.mk (firstE_none (fun j hj => BE.out j (by omega)) : firstE p = -1)
    go_wp2
    go_ret
    exact ⟨by rw [hF.out]; rfl, hB⟩
  have c0 := below_cell0 hB hb0.out (HC.out i hi)
  obtain ⟨c, hcd⟩ : ∃ c, p.getD i 0 = c := ⟨_, rfl⟩
  have clt := c.toNat_lt
  unfold bv at c0
  rw [hcd] at c0
  have CD := Shut.mk hcd
  clear hcd
  have k41 := Tryd.asciiSet_contains (w.heap.size + 1) c (isE c) wr (HS.out c)
  cases hE : isE c with
  | true =>
    rw [hE] at k41
    have hF := Shut.mk (firstE_hit hi BE.out (by rw [CD.out]; exact hE))
    go_wp2_with (go_at_call 41; refine k41.mono ?_; rintro e w1 ⟨rfl, hw1⟩; rw [hw1]; clear hw1 w1)
    go_ret
    exact ⟨by rw [hF.out]; rfl, hB⟩
  | false =>
    rw [hE] at k41
    go_wp2_with (go_at_call 41; refine k41.mono ?_; rintro e w1 ⟨rfl, hw1⟩; rw [hw1]; clear hw1 w1)
    refine Handed.intro (p.length - (i + 1)) (by omega) (hJ1 _ _ _ ?_)
    exact ⟨⟨rfl, rfl⟩, rfl, rfl, rfl, rfl, i + 1, by go_num, rfl, by omega, BE.out.succ (by rw [CD.out]; exact hE)⟩

/-- bytes.IndexAny(p, "\r\n"). -/
theorem indexAny36 (x : Option Nat) (v : Value) (p : List UInt8) (w : World) (hr : Rb w x v p) (hl : p.length ≤ 4194304) (hT : Lib.Utf8Tabs 1 2 w) (m : Int) (hm : w.cell? ⟨0, 0, none⟩ = some (.int .i64 m)) :
    Calls Tryd.prog 36 #[v, .string ⟨#[13, 10]⟩] w fun e w' => e = .returned (.int .i64 (firstE p)) ∧ Below w.heap.size w w' := by
  by_cases h0 : p = []
  · subst h0
    obtain ⟨ad, cap, rfl, _⟩ := hr.val
    exact (index_nil ad cap w).mono fun e w' ⟨h1, h2⟩ => ⟨h1, h2 ▸ Below.refl _ _⟩
  by_cases h1 : p.length = 1
  · obtain ⟨b, off, cap, rfl, _, _, _, hcell⟩ := hr.at h0
    obtain ⟨c, rfl⟩ : ∃ c, p = [c] := by
      match p, h1 with
      | [c], _ => exact ⟨c, rfl⟩
    have hF : firstE [c] = if isE c then 0 else -1 := by
      cases hE : isE c with
      | true => rw [firstE_hit (p := [c]) (i := 0) (by simp) (Before.zero _) hE]; rfl
      | false => rw [firstE_none (p := [c]) ((Before.zero _).succ hE)]; rfl
    rw [hF]
    exact index_one b off cap c w (hcell 0 (by simp))
  have hp : 0 < p.length := List.length_pos_iff.2 h0
  by_cases h8 : p.length ≤ 8
  · exact index_short x v p w hr (by omega) h8 hT m hm
  · exact index_long x v p w hr (by omega) hl

end Go.Proofs.Qxb6609191aDoor
