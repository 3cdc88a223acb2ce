/-
  Seat b6608953aD: buffers of bytes that a call owns and grows; slices of bytes that are read.
-/
import Derived.Test.Qxb6608953aDoorW1
import Derived.Lib.AppendStr
import Derived.Laws.AppendOwn
import Derived.Below
namespace Go.Proofs.Qxb6608953aDoor
open Go.RowKit Go.Lib

theorem Tryd.info5 : (Tryd.prog.info? 5).map (fun i => (i.zero, i.size, i.bytes)) = some (some (.int .u8 0), 1, 1) := by kernel_rfl

theorem info_parts {P : Program} {t : TypeId} {z : Value} {sz by' : Nat} (h : (P.info? t).map (fun i => (i.zero, i.size, i.bytes)) = some (some z, sz, by')) :
    ∃ i, P.info? t = some i ∧ i.zero = some z ∧ i.size = sz ∧ i.bytes = by' := by
  obtain ⟨i, hi, he⟩ := Option.map_eq_some_iff.1 h
  simp only [Prod.mk.injEq] at he
  exact ⟨i, hi, he.1, he.2.1, he.2.2⟩

theorem addr_add (b off i : Nat) : (⟨b, off, none⟩ : Addr).add i = ⟨b, off + i, none⟩ := by
  by_cases h : i = 0
  · subst h; simp [Addr.add]
  · simp [Addr.add, h]

/-- A byte, as memory holds it. -/
def bv (b : UInt8) : Value := .int .u8 b.toNat

/-- In w the slice v owns the bytes l, in a block from B on; below B nothing of W0 has turned. -/
structure Bf (B : Nat) (W0 : World) (v : Value) (l : List UInt8) (w : World) : Prop where
  own : w.ownsRow B 5 1 v l.length (l.map bv)
  bel : Below B W0 w
  le : B ≤ w.heap.size

theorem Bf.nil (w : World) : Bf w.heap.size w (.slice none 0 0) [] w := ⟨World.ownsRow_nil _ _ _ _, Below.refl _ _, Nat.le_refl _⟩

theorem Bf.grown {B : Nat} {W0 w w' : World} {v v' : Value} {l l' : List UInt8} (h : Bf B W0 v l w) (ho : w'.ownsRow B 5 1 v' l'.length (l'.map bv)) (hg : w.grownBy w' v.ownBlock) : Bf B W0 v' l' w' :=
  ⟨ho, h.bel.grown hg h.le (fun k hk => (h.own.lt k hk).1), Nat.le_trans h.le hg.size⟩

theorem Bf.alloc {B : Nat} {W0 w : World} {v : Value} {l : List UInt8} (h : Bf B W0 v l w) (o : Obj) : Bf B W0 v l (w.alloc o) :=
  ⟨h.own.alloc o, h.bel.alloc h.le o, Nat.le_trans h.le (by simp)⟩

theorem Bf.drewN {B : Nat} {W0 w : World} {v : Value} {l : List UInt8} (h : Bf B W0 v l w) (q : Nat) : Bf B W0 v l (w.drewN q) :=
  ⟨h.own, ⟨h.bel.os, h.bel.tape, h.bel.output, h.bel.size, h.bel.block⟩, h.le⟩

/-- Behind a call that turns nothing of what was there. -/
theorem Bf.call {B : Nat} {W0 w w' : World} {v : Value} {l : List UInt8} (h : Bf B W0 v l w) (hb : Below w.heap.size w w') : Bf B W0 v l w' := by
  refine ⟨h.own.kept (row := none) ⟨hb.os, hb.tape, hb.output, hb.size, fun k hk _ => hb.block k hk⟩ ?_, h.bel.trans (hb.mono h.le), Nat.le_trans h.le hb.size⟩
  cases hv : v.ownBlock <;> simp

section
variable {P : Program}

/-- append(buf, b0, b1, ..): the new bytes lie in the block that the statement has just laid. -/
theorem wpList_bf_new {ops : Array Oper} {rest : List Oper} {o : Oper} {a : Act} {Q : Exit → Act → World → Prop} (hgd : o.guard = none) (s x : Operand) (t : TypeId)
    (ho : o.op = .call { callee := .builtin .append, args := #[s, x], argTypes := #[t, t] })
    (i : TypeInfo) (ht : P.underlying t = some (.slice 5)) (hi : P.info? 5 = some i) (hz : i.zero = some (.int .u8 0)) (hsize : i.size = 1) (hby : i.bytes = 1)
    (B : Nat) (W0 w0 : World) (v : Value) (l bs : List UInt8) (cs : Array Value) (hb : Bf B W0 v l w0) (hs : a.eval s = v) (hx : a.eval x = .slice (some ⟨w0.heap.size, 0, none⟩) bs.length bs.length)
    (hcs : cs = (bs.map bv).toArray) (hlen : l.length + bs.length ≤ 140737488355328)
    (h : ∀ v' w', Bf B W0 v' (l ++ bs) w' → wpList P ops Q rest (a.put o.dst v') w') : wpList P ops Q (o :: rest) a (w0.alloc (.cells cs 5)) := by
  subst hcs
  have hb' := hb.alloc (.cells (bs.map bv).toArray 5)
  refine wpList_append_own _ hgd s x t ho B 5 i (.int .u8 0) 1 1 ht hi hz hsize hby rfl (by decide) v l.length (l.map bv) hs hb'.own ⟨w0.heap.size, 0, none⟩ bs.length bs.length (bs.map bv) hx (by simp) ?_ ?_ (by unfold maxLen; omega) (by omega) hb'.le ?_
  · intro j u hj
    have : (w0.alloc (.cells (bs.map bv).toArray 5)).cell? ⟨w0.heap.size, 0 + j, none⟩ = (bs.map bv)[j]? := by
      have hn := heap_alloc_new w0 (.cells (bs.map bv).toArray 5)
      unfold World.cell?
      simp only [hn, Nat.zero_add]
      simp
    rw [addr_add, this, hj]
  · intro u hu
    obtain ⟨b, _, rfl⟩ := List.mem_map.1 hu
    rfl
  · intro v' w' ho' hg _
    refine h v' w' (hb'.grown ?_ hg)
    rw [List.length_append, List.map_append]
    exact ho'

/-- append(buf, text...). -/
theorem wpList_bf_text {ops : Array Oper} {rest : List Oper} {o : Oper} {a : Act} {Q : Exit → Act → World → Prop} (hgd : o.guard = none) (sl x : Operand) (t u : TypeId)
    (ho : o.op = .call { callee := .builtin .append, args := #[sl, x], argTypes := #[t, u] })
    (i : TypeInfo) (ht : P.underlying t = some (.slice 5)) (hu : P.underlying u = some .string) (hi : P.info? 5 = some i) (hz : i.zero = some (.int .u8 0)) (hsize : i.size = 1) (hby : i.bytes = 1)
    (B : Nat) (W0 w : World) (v : Value) (l : List UInt8) (hb : Bf B W0 v l w) (hs : a.eval sl = v) (s : ByteArray) (hx : a.eval x = .string s) (hlen : l.length + s.size ≤ 140737488355328)
    (h : ∀ v' w', Bf B W0 v' (l ++ s.data.toList) w' → wpList P ops Q rest (a.put o.dst v') w') : wpList P ops Q (o :: rest) a w := by
  refine wpList_append_own_string w hgd sl x t u ho B 5 i ht hu hi hz hsize hby v l.length (l.map bv) hs hb.own s hx (by unfold maxLen; omega) hlen hb.le ?_
  intro v' w' ho' hg _
  refine h v' w' (hb.grown ?_ hg)
  rw [List.length_append, List.map_append, ← Lib.size_eq]
  exact ho'
end

/-- The slice with address a reads as the bytes l. -/
def Rd (w : World) (a : Option Addr) (l : List UInt8) : Prop :=
  l = [] ∨ ∃ b off, a = some ⟨b, off, none⟩ ∧ b < w.heap.size ∧ ∀ i, i < l.length → w.cell? ⟨b, off + i, none⟩ = some (bv (l.getD i 0))

theorem Rd.below {w w' : World} {a : Option Addr} {l : List UInt8} (h : Rd w a l) (hb : Below w.heap.size w w') : Rd w' a l := by
  rcases h with h | ⟨b, off, rfl, h2, h3⟩
  · exact .inl h
  · refine .inr ⟨b, off, rfl, Nat.lt_of_lt_of_le h2 hb.size, fun i hi => ?_⟩
    rw [← h3 i hi]
    exact hb.cell h2

theorem Rd.at {w : World} {a : Option Addr} {l : List UInt8} (h : Rd w a l) (hn : l ≠ []) : ∃ b off, a = some ⟨b, off, none⟩ ∧ ∀ i, i < l.length → w.cell? ⟨b, off + i, none⟩ = some (bv (l.getD i 0)) := by
  rcases h with h | ⟨b, off, h1, _, h3⟩
  · exact absurd h hn
  · exact ⟨b, off, h1, h3⟩

/-- What a buffer reads as. -/
theorem Bf.reads {B : Nat} {W0 w : World} {v : Value} {l : List UInt8} (h : Bf B W0 v l w) : ∃ a cap, v = .slice a l.length cap ∧ Rd w a l := by
  have h1 := h.own.1
  rcases h.own.2 with ⟨rfl, hn⟩ | ⟨g, cap, cur, rfl, hg, hh, hcap, hm, hsz, htk⟩
  · have : l = [] := List.length_eq_zero_iff.1 hn
    subst this
    exact ⟨none, 0, rfl, .inl rfl⟩
  · refine ⟨some ⟨g, 0, none⟩, cap, rfl, .inr ⟨g, 0, rfl, (Array.getElem?_eq_some_iff.1 hh).1, fun i hi => ?_⟩⟩
    have := h.own.cells (g := g) rfl i (bv (l.getD i 0)) (by simp [List.getD_eq_getElem?_getD, hi])
    rw [addr_add] at this
    exact this

end Go.Proofs.Qxb6608953aDoor
