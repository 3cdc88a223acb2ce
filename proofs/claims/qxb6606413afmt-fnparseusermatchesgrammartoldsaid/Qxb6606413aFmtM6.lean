/-
  Seat b6606413aF: zzNameOK.
-/
import Derived.Test.Qxb6606413aFmtM5
namespace Go.Proofs.Qxb6606413aFmt
open Go.RowKit Go.Lib

/-- The round's world: the text's iterator; what was there before. -/
structure It (w wr : World) (s : ByteArray) (fm : Bool) (pos fuel : Nat) : Prop where
  it : wr.heap[w.heap.size]? = some (.stringIter s pos)
  bel : Below w.heap.size w wr
  ok : okGo fm s.size s.data.toList = okGo fm fuel (s.data.toList.drop pos)
  fu : s.size ≤ pos + fuel

theorem It.step {w wr : World} {s : ByteArray} {fm : Bool} {pos fuel : Nat} (h : It w wr s fm pos fuel) (hp : pos < s.size) :
    ∃ f, fuel = f + 1 ∧ okGo fm s.size s.data.toList = (!bad fm (Utf8.decode s pos).1 && okGo fm f (s.data.toList.drop (pos + (Utf8.decode s pos).2))) := by
  obtain ⟨f, hf⟩ : ∃ f, fuel = f + 1 := ⟨fuel - 1, by have := h.fu; omega⟩
  refine ⟨f, hf, ?_⟩
  rw [h.ok, hf, okGo_step fm f s pos hp]

theorem It.next {w wr : World} {s : ByteArray} {fm : Bool} {pos f : Nat} (h : It w wr s fm pos (f + 1)) (hw : 1 ≤ (Utf8.decode s pos).2)
    (hok : okGo fm s.size s.data.toList = okGo fm f (s.data.toList.drop (pos + (Utf8.decode s pos).2))) : It w (wr.iterAt w.heap.size s (pos + (Utf8.decode s pos).2)) s fm (pos + (Utf8.decode s pos).2) f :=
  ⟨Lib.iterAt_heap wr w.heap.size s pos _ h.it, Lib.below_iterAt h.bel (k := w.heap.size) (Nat.le_refl _) s _, hok, by have := h.fu; omega⟩

theorem It.pos {w wr : World} {s : ByteArray} {fm : Bool} {pos fuel : Nat} (h : It w wr s fm pos fuel) : wr.iterPos w.heap.size = pos := by
  simp only [World.iterPos, h.it]

set_option maxHeartbeats 4000000 in
set_option maxRecDepth 100000 in
theorem zzNameOK (s : ByteArray) (fm : Bool) (hs : s.size ≤ 1048576) (w : World) :
    Calls Tryf.prog 18 #[.string s, .bool fm] w fun e w' => e = .returned (.bool (nameOK fm s.data.toList)) ∧ Below w.heap.size w w' := by
  have cV := zzValidUTF8 s hs w
  by_cases h0 : s.size = 0
  · have hn : nameOK fm s.data.toList = false := by
      have : s.data.toList = [] := List.length_eq_zero_iff.1 (by rw [← Lib.size_eq]; exact h0)
      rw [this]; rfl
    rw [hn]
    go_enter Tryf.func18, Tryf.ntmps18
    go_wp2
    go_ret
    exact ⟨rfl, Below.refl _ _⟩
  cases hV : validD s.data.toList with
  | false =>
    have hn : nameOK fm s.data.toList = false := by simp [nameOK, hV]
    rw [hn]
    rw [hV] at cV
    go_enter Tryf.func18, Tryf.ntmps18
    go_wp2_with (go_at_call 24; refine cV.mono ?_; rintro e w1 ⟨rfl, hw1⟩; rw [hw1]; clear hw1 w1)
    go_ret
    exact ⟨rfl, Below.refl _ _⟩
  | true =>
    rw [hV] at cV
    have hn : nameOK fm s.data.toList = okGo fm s.size s.data.toList := by
      have he : s.data.toList.isEmpty = false := by
        cases hl : s.data.toList with
        | nil => rw [Lib.size_eq, hl] at h0; simp at h0
        | cons x l => rfl
      rw [Lib.size_eq]
      simp only [nameOK, hV, he, Bool.not_false, Bool.true_and]
    rw [hn]
    clear hn hV
    have hz : ((s.size : Int) == 0) = false := beq_eq_false_iff_ne.2 (by omega)
    go_enter Tryf.func18, Tryf.ntmps18
    go_wp2_with (go_at_call 24; refine cV.mono ?_; rintro e w1 ⟨rfl, hw1⟩; rw [hw1]; clear hw1 w1)
    clear cV
    go_loopw [6] (fun _ wr => ∃ pos fuel : Nat, It w wr s fm pos fuel) (fun _ wr => s.size - wr.iterPos w.heap.size)
    case atStart =>
      exact ⟨0, s.size, World.iter_heap w s 0, (Below.refl _ w).alloc (Nat.le_refl _) (.stringIter s 0), by simp, by omega⟩
    case round =>
      obtain ⟨pos, fuel, hA⟩ := hrel
      have hit := hA.it
      by_cases hpos : pos < s.size
      · have hnx : ∀ ty, (Instr.next (.pointer (some ⟨w.heap.size, 0, none⟩)) true ty).run Tryf.prog wr = _ := fun ty => Lib.run_next_any_at wr w.heap.size s pos ty hit hpos
        obtain ⟨f, rfl, hok⟩ := hA.step hpos
        have hwd := Lib.width_pos s pos
        have hrl := Lib.rune_le s pos
        have hB := Lib.below_iterAt hA.bel (k := w.heap.size) (Nat.le_refl _) s (pos + (Utf8.decode s pos).2)
        have hnext := fun h1 => hA.next hwd h1
        have hmz := hA.pos
        have hqp : pos < pos + (Utf8.decode s pos).2 := by omega
        have hbi := bad_iff fm (Utf8.decode s pos).1 hrl
        have cR := fun wn => zzRefused fm ((Utf8.decode s pos).1 : Int) (by omega) (by omega) wn
        generalize (Utf8.decode s pos).1 = r at *
        generalize pos + (Utf8.decode s pos).2 = q at *
        generalize wr.iterAt w.heap.size s q = wi at *
        have cR1 : ∀ wn, Calls Tryf.prog 25 #[.int .i32 (r : Int), .bool fm] wn fun e w' => e = .returned (.bool (bad fm r)) ∧ w' = wn := by
          intro wn
          refine (cR wn).mono ?_
          rintro e w1 ⟨⟨b, rfl, hb⟩, hw1⟩
          refine ⟨?_, hw1⟩
          have : b = bad fm r := by
            rw [Bool.eq_iff_iff, hb, hbi]
          rw [this]
        clear cR hbi
        cases hbd : bad fm (r : Int) with
        | true =>
          rw [hbd] at hok cR1
          have Hk := hide hok
          clear hok hnext
          go_wp2_with (go_at_call 25; refine (cR1 _).mono ?_; rintro e w1 ⟨rfl, hw1⟩; rw [hw1]; clear hw1 w1)
          go_ret
          exact ⟨by rw [Hk.out]; rfl, hB⟩
        | false =>
          rw [hbd] at hok cR1
          have Hn := hide (hnext (by rw [hok]; rfl))
          clear hok hnext
          go_wp2_with (go_at_call 25; refine (cR1 _).mono ?_; rintro e w1 ⟨rfl, hw1⟩; rw [hw1]; clear hw1 w1)
          go_roundw
          case rel => exact ⟨q, f, Hn.out⟩
          case measure =>
            have h1 := Hn.out.pos
            rw [h1, hmz]
            omega
      · have hnx : ∀ ty, (Instr.next (.pointer (some ⟨w.heap.size, 0, none⟩)) true ty).run Tryf.prog wr = _ := fun ty => Lib.run_next_end_at wr w.heap.size s pos ty hit hpos
        have Hk := hide (hA.ok.trans (okGo_end fm fuel s pos hpos))
        go_wp2
        go_ret
        exact ⟨by rw [Hk.out]; rfl, hA.bel⟩

end Go.Proofs.Qxb6606413aFmt
