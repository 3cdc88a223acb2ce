/-
  Seat b6609191aD: End, ZZFeed, ZZEnd, ZZNewSplitter, ZZState, MidLine.
-/
import Derived.Test.Qxb6609191aDoorFd
import Derived.BigQuiet
namespace Go.Proofs.Qxb6609191aDoor
open Go.RowKit Go.Lib

set_option maxHeartbeats 4000000 in
set_option maxRecDepth 100000 in
theorem end34 (N S O : Nat) (w : World) (vP : Value) (part : List UInt8) (cr : Bool) (vL : Value) (LL : List (List UInt8)) (vp : Value) (pp : List UInt8)
    (hF : Fi N S O vP.ownBlock w w vP cr vP part vL LL vp pp) (hbp : part.length ≤ 4194304) (hbl : LL.length ≤ 2000000) :
    Calls Tryd.prog 34 #[.pointer (some ⟨S, 0, none⟩), .func (.func 35) #[] #[.pointer (some ⟨O, 0, none⟩)]] w fun e w' => e = .returned (.tuple #[]) ∧
      ∃ vP' vL', Fi N S O vP.ownBlock w w' vP' false vP' [] vL' (LL ++ ending part) vp pp := by
  have k35 := emit35 N w O _ none vL vP LL part hF.ou (owns_reads hF.own none (fun _ _ h => by cases h)) hF.own_lt hF.hN hbp hbl
  have hR := owns_reads hF.own none (fun _ _ h => by cases h)
  have c0 := hF.c0
  have c1 := hF.c1
  have f0 := hF.fz 1
  have F1 := Shut.mk hF
  rcases hF.own.2 with ⟨rfl, hz⟩ | ⟨g9, cap9, cur9, rfl, hq1, hq2, hq3, _⟩
  · have hz2 : part = [] := List.length_eq_zero_iff.1 hz
    subst hz2
    clear hF hbp hbl hR
    go_enter Tryd.func34, Tryd.ntmps34
    go_wp2
    go_end0
    exact ⟨rfl, _, _, by rw [show ending [] = [] from rfl, List.append_nil]; exact F1.out.set 1 (.bool false) _ false rfl⟩
  · by_cases h0 : part = []
    · subst h0
      clear hF hbp hbl hR hq2 k35
      go_enter Tryd.func34, Tryd.ntmps34
      go_wp2
      go_end0
      exact ⟨rfl, _, _, by rw [show ending [] = [] from rfl, List.append_nil]; exact F1.out.set 1 (.bool false) _ false rfl⟩
    · have hp : 0 < part.length := List.length_pos_iff.2 h0
      have he : Shut (ending part = [part]) := ⟨by unfold ending; rw [if_neg (by simpa using h0)]⟩
      clear hF hbl hR hq1 hq2
      go_enter Tryd.func34, Tryd.ntmps34
      go_upto_region 2 with (go_at_call 35; refine k35.mono ?_; rintro e w6 ⟨rfl, ⟨vL6, hO6⟩, hK6⟩; have F6 := Shut.mk (F1.out.emit hO6 hK6); clear hO6 hK6 k35)
      have c6 := F6.out.c0
      have f6 := F6.out.fz 0
      go_upto_region 3 with fail
      have F7 := Shut.mk (F6.out.cut.set 0 (.slice (some ⟨g9, 0, none⟩) 0 cap9) (.slice (some ⟨g9, 0, none⟩) 0 cap9) cr rfl)
      generalize hw7 : w6.setCell ⟨S, 0, none⟩ (.slice (some ⟨g9, 0, none⟩) 0 cap9) = w7 at F7 ⊢
      clear hw7 F6 c6 f6
      have c7 := F7.out.c1
      have f7 := F7.out.fz 1
      go_wp2
      go_end0
      exact ⟨rfl, _, _, by rw [he.out]; exact F7.out.set 1 (.bool false) _ false rfl⟩

/-- A splitter. -/
structure Sp (w : World) (S : Nat) (vP : Value) (part : List UInt8) (cr : Bool) : Prop where
  ss : w.heap[S]? = some (.cells #[vP, .bool cr] 45)
  own : w.ownsRow 0 5 1 vP part.length (part.map bv)

/-- What a call on a splitter leaves as it was. -/
structure Fk (S : Nat) (x : Option Nat) (w w' : World) : Prop where
  os : w'.os = w.os
  tape : w'.tape = w.tape
  output : w'.output = w.output
  size : w.heap.size ≤ w'.heap.size
  blk : ∀ k, k < w.heap.size → k ≠ S → x ≠ some k → w'.heap[k]? = w.heap[k]?

/-- A list of lines. -/
def Ls (N : Nat) (w : World) (x : Option Nat) (vL : Value) (LL : List (List UInt8)) : Prop :=
  ∃ es, w.ownsRow N 22 1 vL LL.length es ∧ ∀ i, i < LL.length → Rb w x (es.getD i undef) (LL.getD i [])

/-- Where a row lies then: where it lay, or new. -/
def Nw (n : Nat) (x x' : Option Nat) : Prop := x' = x ∨ ∀ k, x' = some k → n ≤ k

theorem fi_start {w : World} {S : Nat} {vP : Value} {part : List UInt8} {cr : Bool} {vp : Value} {pp : List UInt8} (h : Sp w S vP part cr) (hr : Rb w vP.ownBlock vp pp) :
    Fi w.heap.size S w.heap.size vP.ownBlock (w.alloc (.cells #[.slice none 0 0] 29)) (w.alloc (.cells #[.slice none 0 0] 29)) vP cr vP part (.slice none 0 0) [] vp pp := by
  have hb : Below w.heap.size w (w.alloc (.cells #[.slice none 0 0] 29)) := (Below.refl _ _).alloc (Nat.le_refl _) _
  refine ⟨hb.size, lt_of_heap h.ss, ?_, below_own hb h.own, ⟨Nat.le_refl _, heap_alloc_new w _, [], World.ownsRow_nil _ _ _ _, fun i hi => by simp at hi⟩, below_rb hb hr, rfl, rfl, rfl, fun _ _ _ _ => rfl, .inl rfl⟩
  rw [hb.block S (lt_of_heap h.ss)]
  exact h.ss

theorem fi_stop {w w' : World} {S : Nat} {vP vP' : Value} {part' : List UInt8} {cr' : Bool} {vL : Value} {LL : List (List UInt8)} {vp : Value} {pp : List UInt8}
    (h : Fi w.heap.size S w.heap.size vP.ownBlock (w.alloc (.cells #[.slice none 0 0] 29)) w' vP' cr' vP' part' vL LL vp pp) :
    Sp w' S vP' part' cr' ∧ Ls w.heap.size w' vP'.ownBlock vL LL ∧ Fk S vP.ownBlock w w' ∧ Nw w.heap.size vP.ownBlock vP'.ownBlock := by
  have hb : Below w.heap.size w (w.alloc (.cells #[.slice none 0 0] 29)) := (Below.refl _ _).alloc (Nat.le_refl _) _
  refine ⟨⟨h.ss, h.own⟩, h.ou.els, ⟨h.os.trans hb.os, h.tape.trans hb.tape, h.output.trans hb.output, h.hN, fun k hk h1 h2 => ?_⟩, h.xo⟩
  rw [h.low k hk h1 h2, hb.block k hk]

theorem Gl.below {w w' : World} (h : Gl w) (hb : Below w.heap.size w w') : Gl w' := by
  obtain ⟨t, m, hm⟩ := h
  exact ⟨Utf8Tabs_below t hb, m, below_cell0 hb (cell_lt hm) hm⟩

set_option maxHeartbeats 4000000 in
set_option maxRecDepth 100000 in
theorem zzFeed14 (S : Nat) (w : World) (vP : Value) (part : List UInt8) (cr : Bool) (vp : Value) (pp : List UInt8)
    (hs : Sp w S vP part cr) (hr : Rb w vP.ownBlock vp pp) (hS3 : 3 ≤ S) (hx3 : ∀ k, vP.ownBlock = some k → 3 ≤ k) (hG : Gl w) (hbp : part.length + pp.length ≤ 4194304) (hbl : pp.length ≤ 2000000) :
    Calls Tryd.prog 14 #[.pointer (some ⟨S, 0, none⟩), vp] w fun e w' => ∃ vL vP', e = .returned vL ∧
      Sp w' S vP' (fd part cr pp).2.1 (fd part cr pp).2.2 ∧ Ls w.heap.size w' vP'.ownBlock vL (fd part cr pp).1 ∧ Fk S vP.ownBlock w w' ∧ Nw w.heap.size vP.ownBlock vP'.ownBlock := by
  have hF := fi_start hs hr
  have k32 := feed32 _ S _ _ vP part cr _ _ vp pp hF hS3 hx3 (hG.below ((Below.refl _ _).alloc (Nat.le_refl _) _)) hbp (by simpa using hbl)
  clear hF hs hG hbp hbl hx3
  obtain ⟨ad, cp, rfl, hcp⟩ := hr.val
  clear hr
  go_enter Tryd.func14, Tryd.ntmps14
  go_wp2_with (go_at_call 32; refine k32.mono ?_; rintro e w6 ⟨rfl, vP', vL', vq, qq, hf⟩; have cO := cell_of_block (i := 0) hf.ou.ou rfl; have F6 := Shut.mk hf; clear hf k32)
  go_ret
  have f := F6.out
  rw [List.nil_append] at f
  exact ⟨_, vP', rfl, fi_stop f⟩

set_option maxHeartbeats 4000000 in
set_option maxRecDepth 100000 in
theorem zzEnd28 (S : Nat) (w : World) (vP : Value) (part : List UInt8) (cr : Bool) (hs : Sp w S vP part cr) (hbp : part.length ≤ 4194304) :
    Calls Tryd.prog 28 #[.pointer (some ⟨S, 0, none⟩)] w fun e w' => ∃ vL vP', e = .returned vL ∧
      Sp w' S vP' [] false ∧ Ls w.heap.size w' vP'.ownBlock vL (ending part) ∧ Fk S vP.ownBlock w w' ∧ Nw w.heap.size vP.ownBlock vP'.ownBlock := by
  have hF := fi_start hs (Rb.nil w _)
  have k34 := end34 _ S _ _ vP part cr _ _ _ _ hF hbp (by simp)
  clear hF hs hbp
  go_enter Tryd.func28, Tryd.ntmps28
  go_wp2_with (go_at_call 34; refine k34.mono ?_; rintro e w6 ⟨rfl, vP', vL', hf⟩; have cO := cell_of_block (i := 0) hf.ou.ou rfl; have F6 := Shut.mk hf; clear hf k34)
  go_ret
  have f := F6.out
  rw [List.nil_append] at f
  exact ⟨_, vP', rfl, fi_stop f⟩

set_option maxHeartbeats 4000000 in
theorem zzNew13 (w : World) (vP : Value) (part : List UInt8) (cr : Bool) (ho : w.ownsRow 0 5 1 vP part.length (part.map bv)) :
    Calls Tryd.prog 13 #[vP, .bool cr] w fun e w' => e = .returned (.pointer (some ⟨w.heap.size, 0, none⟩)) ∧ Sp w' w.heap.size vP part cr ∧ Below w.heap.size w w' := by
  have HO := Shut.mk ho
  obtain ⟨ad, cp, rfl, _⟩ := (owns_reads ho none (fun _ _ h => by cases h)).val
  clear ho
  go_enter Tryd.func13, Tryd.ntmps13
  go_wp2
  go_ret
  have hb : Below w.heap.size w (w.alloc (.cells #[.slice ad part.length cp, .bool cr] 45)) := (Below.refl _ _).alloc (Nat.le_refl _) _
  exact ⟨rfl, ⟨heap_alloc_new w _, below_own hb HO.out⟩, hb⟩

set_option maxHeartbeats 4000000 in
theorem zzState15 (S : Nat) (w : World) (vP : Value) (part : List UInt8) (cr : Bool) (hs : Sp w S vP part cr) :
    Calls Tryd.prog 15 #[.pointer (some ⟨S, 0, none⟩)] w fun e w' => e = .returned (.tuple #[vP, .bool cr]) ∧ Below w.heap.size w w' := by
  have c0 : w.cell? ⟨S, 0, none⟩ = some vP := cell_of_block hs.ss rfl
  have c1 : w.cell? ⟨S, 1, none⟩ = some (.bool cr) := cell_of_block hs.ss rfl
  obtain ⟨ad, cp, rfl, _⟩ := (owns_reads hs.own none (fun _ _ h => by cases h)).val
  clear hs
  go_enter Tryd.func15, Tryd.ntmps15
  go_wp2
  go_quiet (fail)
  go_wp2
  go_ret2
  exact ⟨rfl, ⟨rfl, rfl, rfl, Nat.le_refl _, fun _ _ => rfl⟩⟩

set_option maxHeartbeats 4000000 in
theorem midLine25 (S : Nat) (w : World) (vP : Value) (part : List UInt8) (cr : Bool) (hs : Sp w S vP part cr) :
    Calls Tryd.prog 25 #[.pointer (some ⟨S, 0, none⟩)] w fun e w' => e = .returned (.bool (decide (0 < part.length))) ∧ w' = w := by
  have c0 : w.cell? ⟨S, 0, none⟩ = some vP := cell_of_block hs.ss rfl
  obtain ⟨ad, cp, rfl, _⟩ := (owns_reads hs.own none (fun _ _ h => by cases h)).val
  clear hs
  go_enter Tryd.func25, Tryd.ntmps25
  go_wp2
  go_ret
  exact ⟨by first | rfl | simp, rfl⟩

end Go.Proofs.Qxb6609191aDoor
