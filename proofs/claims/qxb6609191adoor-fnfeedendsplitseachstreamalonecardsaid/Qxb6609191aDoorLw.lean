/-
  Seat b6609191aD: what the laws' own steps keep.
-/
import Derived.Test.Qxb6609191aDoorTr
import Derived.Test.Qxb6609191aDoorFrame2
namespace Go.Proofs.Qxb6609191aDoor
open Go.RowKit Go.Lib

theorem Gl.ge3 {w : World} (h : Gl w) : 3 ≤ w.heap.size := cell_lt (h.tab.2 0 (by omega)).1

theorem Rb.keep {w w' : World} {S : Nat} {x x' : Option Nat} {v : Value} {l : List UInt8} {cs : Array Value} (h : Rb w x v l) (hs : w.heap[S]? = some (.cells cs 45)) (hf : Fk S x w w') (hn : Nw w.heap.size x x') : Rb w' x' v l :=
  h.same fun b cur hb hx => by
    refine ⟨hf.blk b (lt_of_heap hb) (fun e => ?_) hx, fun e => ?_⟩
    · subst e
      exact absurd (typ_ne hb hs) (by decide)
    · rcases hn with hn | hn
      · rw [hn] at e; exact hx e
      · have := hn b e
        have := lt_of_heap hb
        omega

theorem Ls.keep {N : Nat} {w w' : World} {S : Nat} {x x' : Option Nat} {vL : Value} {LL : List (List UInt8)} {cs : Array Value} (h : Ls N w x vL LL) (hs : w.heap[S]? = some (.cells cs 45)) (hx5 : ∀ k, x = some k → ∃ cur, w.heap[k]? = some (.cells cur 5)) (hf : Fk S x w w') (hn : Nw w.heap.size x x') : Ls N w' x' vL LL := by
  obtain ⟨es, h1, h2⟩ := h
  refine ⟨es, owns_same h1 (fun k cur _ hk => hf.blk k (lt_of_heap hk) (fun e => ?_) (fun e => ?_)), fun i hi => (h2 i hi).keep hs hf hn⟩
  · subst e
    exact absurd (typ_ne hk hs) (by decide)
  · obtain ⟨cur', hk'⟩ := hx5 k e
    exact absurd (typ_ne hk hk') (by decide)

theorem Ls.below {N : Nat} {w w' : World} {x x' : Option Nat} {vL : Value} {LL : List (List UInt8)} (h : Ls N w x vL LL) (hb : Below w.heap.size w w') (hx : ∀ k, x' = some k → x = some k) : Ls N w' x' vL LL := by
  obtain ⟨es, h1, h2⟩ := h
  exact ⟨es, below_own hb h1, fun i hi => (h2 i hi).same fun b cur hk hxb => ⟨hb.block b (lt_of_heap hk), fun e => hxb (hx b e)⟩⟩

theorem Ls.val {N : Nat} {w : World} {x : Option Nat} {vL : Value} {LL : List (List UInt8)} (h : Ls N w x vL LL) : ∃ ad cap, vL = .slice ad LL.length cap := by
  obtain ⟨es, h1, _⟩ := h
  rcases h1.2 with ⟨h2, h3⟩ | ⟨g, cap, cur, h2, _⟩
  · exact ⟨none, 0, by rw [h3]; exact h2⟩
  · exact ⟨_, cap, h2⟩

/-- The i-th line of a list. -/
theorem Ls.get {N : Nat} {w : World} {x : Option Nat} {vL : Value} {LL : List (List UInt8)} (h : Ls N w x vL LL) {i : Nat} (hi : i < LL.length) :
    ∃ g cap e, vL = .slice (some ⟨g, 0, none⟩) LL.length cap ∧ LL.length ≤ cap ∧ w.cell? ⟨g, i, none⟩ = some e ∧ Rb w x e (LL.getD i []) := by
  obtain ⟨es, h1, h4⟩ := h
  rcases h1.2 with ⟨_, h3⟩ | ⟨g, cap, cur, h2, r1, r2, r3, r4, r5, r6⟩
  · omega
  · have hl : es.length = LL.length := by simpa using h1.1
    refine ⟨g, cap, es.getD i undef, h2, r3, ?_, h4 i hi⟩
    refine cell_of_block r2 ?_
    have h7 : (List.take (LL.length * 1) cur.toList)[i]? = es[i]? := by rw [r6]
    rw [List.getElem?_take, if_pos (by omega)] at h7
    rw [← Array.getElem?_toList, h7, List.getD_eq_getElem?_getD, List.getElem?_eq_getElem (by omega)]
    rfl

theorem Sp.own5 {w : World} {S : Nat} {vP : Value} {part : List UInt8} {cr : Bool} (h : Sp w S vP part cr) : ∀ k, vP.ownBlock = some k → ∃ cur, w.heap[k]? = some (.cells cur 5) := fun k hk => by
  obtain ⟨cur, hc, _⟩ := owns_block h.own hk
  exact ⟨cur, hc⟩

theorem Fk.below {S : Nat} {x : Option Nat} {w0 w w' : World} (h : Below w0.heap.size w0 w) (hf : Fk S x w w') (hS : w0.heap.size ≤ S) (hx : ∀ k, x = some k → w0.heap.size ≤ k) : Below w0.heap.size w0 w' :=
  ⟨hf.os.trans h.os, hf.tape.trans h.tape, hf.output.trans h.output, Nat.le_trans h.size hf.size, fun k hk => by
    have hs := h.size
    rw [hf.blk k (by omega) (by omega) (fun e => by have := hx k e; omega), h.block k hk]⟩

theorem Nw.ge {n m : Nat} {x x' : Option Nat} (h : Nw n x x') (hm : m ≤ n) (hx : ∀ k, x = some k → m ≤ k) : ∀ k, x' = some k → m ≤ k := fun k hk => by
  rcases h with h | h
  · rw [h] at hk; exact hx k hk
  · exact Nat.le_trans hm (h k hk)

/-- The state that the laws let in. -/
theorem ok_facts {l : List UInt8} {cr : Bool} (h : (noE l && (!cr || l.isEmpty)) = true) : (∀ b ∈ l, isE b = false) ∧ (cr = true → l = []) := by
  simp only [Bool.and_eq_true, Bool.or_eq_true, Bool.not_eq_true', List.isEmpty_iff] at h
  refine ⟨fun b hb => ?_, fun hc => ?_⟩
  · have := List.all_eq_true.1 h.1 b hb
    simpa using this
  · rcases h.2 with h2 | h2
    · rw [hc] at h2; cases h2
    · exact h2

theorem ending_nil {l : List UInt8} (h : l = []) : ending l = [] := by subst h; rfl
theorem ending_one {l : List UInt8} (h : l ≠ []) : ending l = [l] := by
  unfold ending
  rw [if_neg (by simpa using h)]

/-- What is read lies below the row that is new. -/
theorem rb_ready {w1 w4 : World} {vp : Value} {pp : List UInt8} {x : Option Nat} (h : Rb w1 none vp pp) (hn : Nw w1.heap.size none x) (hb : Below w1.heap.size w1 w4) : Rb w4 x vp pp :=
  h.same fun b cur hk _ => ⟨hb.block b (lt_of_heap hk), fun e => by
    rcases hn with hn | hn
    · rw [hn] at e; cases e
    · have := hn b e
      have := lt_of_heap hk
      omega⟩

theorem chain4 {w w1 w2 w3 w4 : World} (b1 : Below w.heap.size w w1) (b2 : Below w1.heap.size w1 w2) (b3 : Below w2.heap.size w2 w3) (b4 : Below w3.heap.size w3 w4) :
    Below w.heap.size w w4 ∧ Below w1.heap.size w1 w4 ∧ w.heap.size ≤ w3.heap.size ∧ w.heap.size ≤ w1.heap.size := by
  have h1 := b1.size
  have h2 := b2.size
  have h3 := b3.size
  have b14 := (b2.trans (b3.mono h2)).trans (b4.mono (Nat.le_trans h2 h3))
  exact ⟨b1.trans (b14.mono h1), b14, by omega, h1⟩

/-- Feed, beside the world that a law began in. -/
theorem feedW (w : World) (S : Nat) (w4 : World) (vP : Value) (part : List UInt8) (cr : Bool) (vp : Value) (pp : List UInt8) (hG : Gl w) (hb : Below w.heap.size w w4) (hS : w.heap.size ≤ S) (hx : ∀ k, vP.ownBlock = some k → w.heap.size ≤ k)
    (hs : Sp w4 S vP part cr) (hr : Rb w4 vP.ownBlock vp pp) (hbp : part.length + pp.length ≤ 4194304) (hbl : pp.length ≤ 2000000) :
    Calls Tryd.prog 14 #[.pointer (some ⟨S, 0, none⟩), vp] w4 fun e w5 => ∃ vL vP', e = .returned vL ∧
      Sp w5 S vP' (fd part cr pp).2.1 (fd part cr pp).2.2 ∧ Ls w4.heap.size w5 vP'.ownBlock vL (fd part cr pp).1 ∧ Fk S vP.ownBlock w4 w5 ∧ Nw w4.heap.size vP.ownBlock vP'.ownBlock ∧ Below w.heap.size w w5 ∧ ∀ k, vP'.ownBlock = some k → w.heap.size ≤ k := by
  have h3 := hG.ge3
  refine (zzFeed14 S w4 vP part cr vp pp hs hr (by omega) (fun k hk => by have := hx k hk; omega) (hG.below hb) hbp hbl).mono ?_
  rintro e w5 ⟨vL, vP', rfl, h1, h2, h3, h4⟩
  exact ⟨vL, vP', rfl, h1, h2, h3, h4, Fk.below hb h3 hS hx, h4.ge hb.size hx⟩

/-- End, beside the world that a law began in. -/
theorem endW (w : World) (S : Nat) (w4 : World) (vP : Value) (part : List UInt8) (cr : Bool) (hb : Below w.heap.size w w4) (hS : w.heap.size ≤ S) (hx : ∀ k, vP.ownBlock = some k → w.heap.size ≤ k)
    (hs : Sp w4 S vP part cr) (hbp : part.length ≤ 4194304) :
    Calls Tryd.prog 28 #[.pointer (some ⟨S, 0, none⟩)] w4 fun e w5 => ∃ vL vP', e = .returned vL ∧
      Sp w5 S vP' [] false ∧ Ls w4.heap.size w5 vP'.ownBlock vL (ending part) ∧ Fk S vP.ownBlock w4 w5 ∧ Nw w4.heap.size vP.ownBlock vP'.ownBlock ∧ Below w.heap.size w w5 ∧ ∀ k, vP'.ownBlock = some k → w.heap.size ≤ k := by
  refine (zzEnd28 S w4 vP part cr hs hbp).mono ?_
  rintro e w5 ⟨vL, vP', rfl, h1, h2, h3, h4⟩
  exact ⟨vL, vP', rfl, h1, h2, h3, h4, Fk.below hb h3 hS hx, h4.ge hb.size hx⟩

end Go.Proofs.Qxb6609191aDoor
