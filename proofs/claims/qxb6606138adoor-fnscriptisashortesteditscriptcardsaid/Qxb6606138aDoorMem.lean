import Derived.WalkKit
import Derived.WalkSpells
import Derived.WalkLawsBesides
import Derived.Deep.QuietTactic
import Derived.BigQuiet
namespace Go.Proofs.Qxb6606138aDoor
open Go.RowKit

theorem hide {p : Prop} (h : p) : Hid p := h

/-- Block g holds just these cells, none frozen. -/
def Blk (w : World) (g : Nat) (e : TypeId) (cs : List Value) : Prop := w.heap[g]? = some (.cells cs.toArray e (0, 0))

section
variable {w : World} {g : Nat} {e : TypeId} {cs : List Value}

theorem Blk.lt (h : Blk w g e cs) : g < w.heap.size := by
  unfold Blk at h
  exact (Array.getElem?_eq_some_iff.1 h).1

theorem Blk.cell? (h : Blk w g e cs) (i : Nat) : w.cell? ⟨g, i, none⟩ = cs[i]? := by
  unfold Blk at h
  simp [World.cell?, h]

theorem Blk.cell (h : Blk w g e cs) {i : Nat} {v : Value} (hi : cs[i]? = some v) : w.cell? ⟨g, i, none⟩ = some v := (h.cell? i).trans hi

theorem Blk.frozen (h : Blk w g e cs) (i : Nat) : w.frozen? ⟨g, i, none⟩ = false := by
  unfold Blk at h
  simp [World.frozen?, h]

theorem Blk.set (h : Blk w g e cs) (i : Nat) (v : Value) : Blk (w.setCell ⟨g, i, none⟩ v) g e (cs.set i v) := by
  unfold Blk at *
  have hl : g < w.heap.size := (Array.getElem?_eq_some_iff.1 h).1
  simp only [World.setCell, Array.getElem?_modify, h]
  simp

theorem Blk.set_ne (h : Blk w g e cs) {a : Addr} (v : Value) (hne : a.block ≠ g) : Blk (w.setCell a v) g e cs := by
  unfold Blk at *
  rw [Below.heap_setCell _ _ _ _ (by omega)]
  exact h

theorem Blk.alloc (h : Blk w g e cs) (o : Obj) : Blk (w.alloc o) g e cs := by
  have := h.lt
  unfold Blk at *
  rw [Below.heap_alloc _ _ _ this]
  exact h

theorem Blk.new (w : World) (e : TypeId) (cs : List Value) : Blk (w.alloc (.cells cs.toArray e)) w.heap.size e cs := by
  unfold Blk
  exact heap_alloc_new w _

theorem Blk.drew (h : Blk w g e cs) : Blk w.drew g e cs := h

theorem Blk.below {w' : World} {B : Nat} (h : Blk w g e cs) (hb : Below B w w') (hg : g < B) : Blk w' g e cs := by
  unfold Blk at *
  rw [hb.block g hg]; exact h

theorem Blk.grown {w' : World} {row : Option Nat} (h : Blk w g e cs) (hg : w.grownBy w' row) (hne : some g ≠ row) : Blk w' g e cs := by
  have := h.lt
  unfold Blk at *
  rw [hg.block g this hne]; exact h

theorem Blk.inj {cs' : List Value} {e' : TypeId} (h : Blk w g e cs) (h' : Blk w g e' cs') : cs = cs' := by
  unfold Blk at *
  rw [h] at h'
  simp only [Option.some.injEq, Obj.cells.injEq] at h'
  exact List.toArray_inj h'.1

/-- A full row that is owned, as a block. -/
theorem Blk.of_owns {base n : Nat} (h : w.ownsRow base e 1 (.slice (some ⟨g, 0, none⟩) n n) n cs) : Blk w g e cs := by
  obtain ⟨h1, h2⟩ := h
  rcases h2 with ⟨h2, _⟩ | ⟨g', cap, cur, hv, hg, hh, h3, h4, h5, h6⟩
  · cases h2
  · simp only [Value.slice.injEq, Option.some.injEq, Addr.mk.injEq, true_and, and_true] at hv
    obtain ⟨rfl, rfl⟩ := hv
    unfold Blk
    rw [hh]
    have : cur.toList.take (n * 1) = cur.toList := List.take_of_length_le (by simp [h5])
    rw [this] at h6
    rw [← h6]

theorem Blk.owns {base n : Nat} (h : Blk w g e cs) (hb : base ≤ g) (hn : cs.length = n) (hm : n ≤ maxLen) : w.ownsRow base e 1 (.slice (some ⟨g, 0, none⟩) n n) n cs := by
  refine ⟨by omega, Or.inr ⟨g, n, cs.toArray, rfl, hb, h, Nat.le_refl _, hm, by simp; omega, ?_⟩⟩
  simp only [List.take_of_length_le (l := cs) (i := n * 1) (by omega)]
end

/-- A block of integers of one kind. -/
def Ib (w : World) (g : Nat) (e : TypeId) (k : IntKind) (l : List Int) : Prop := Blk w g e (l.map (Value.int k))

section
variable {w : World} {g : Nat} {e : TypeId} {k : IntKind} {l : List Int}
theorem Ib.cell (h : Ib w g e k l) {i : Nat} (hi : i < l.length) : w.cell? ⟨g, i, none⟩ = some (.int k (l.getD i 0)) :=
  Blk.cell h (by simp [hi])
theorem Ib.frozen (h : Ib w g e k l) (i : Nat) : w.frozen? ⟨g, i, none⟩ = false := Blk.frozen h i
theorem Ib.set (h : Ib w g e k l) (i : Nat) (v : Int) : Ib (w.setCell ⟨g, i, none⟩ (.int k v)) g e k (l.set i v) := by
  unfold Ib; rw [List.map_set]; exact Blk.set h i _
theorem Ib.set_ne (h : Ib w g e k l) {a : Addr} (v : Value) (hne : a.block ≠ g) : Ib (w.setCell a v) g e k l := Blk.set_ne h v hne
theorem Ib.lt (h : Ib w g e k l) : g < w.heap.size := Blk.lt h
theorem Ib.drewN (h : Ib w g e k l) (n : Nat) : Ib (w.drewN n) g e k l := h
theorem Ib.alloc (h : Ib w g e k l) (o : Obj) : Ib (w.alloc o) g e k l := Blk.alloc h o
theorem Ib.grown {w' : World} {row : Option Nat} (h : Ib w g e k l) (hg : w.grownBy w' row) (hne : some g ≠ row) : Ib w' g e k l := Blk.grown h hg hne
theorem Ib.below {w' : World} {B : Nat} (h : Ib w g e k l) (hb : Below B w w') (hg : g < B) : Ib w' g e k l := Blk.below h hb hg
theorem Ib.of_made {base n : Nat} (h : w.ownsRow base e 1 (.slice (some ⟨g, 0, none⟩) n n) n (madeCells #[Value.int k 0] n).toList) : Ib w g e k (List.replicate n 0) := by
  have h1 := Blk.of_owns h
  unfold Ib
  have : (madeCells #[Value.int k 0] n).toList = (List.replicate n (0 : Int)).map (Value.int k) := by
    simp only [madeCells, Array.toList_map, Array.toList_range, List.map_replicate]
    refine List.ext_getElem (by simp) (fun i h1 h2 => ?_)
    simp [Nat.mod_one]
  rw [← this]; exact h1
end

theorem getD_set (l : List Int) (i j : Nat) (v : Int) (hi : i < l.length) : (l.set i v).getD j 0 = if i = j then v else l.getD j 0 := by
  simp only [List.getD_eq_getElem?_getD, List.getElem?_set]
  split <;> simp [*]

/-- A slice at 'a' of n cells reads f 0, f 1, ..: or it is empty. -/
def Rd (w : World) (a : Option Addr) (n : Nat) (f : Nat → Value) : Prop :=
  n = 0 ∨ ∃ b off, a = some ⟨b, off, none⟩ ∧ ∀ i, i < n → w.cell? ⟨b, off + i, none⟩ = some (f i)

theorem Rd.of_blk {w : World} {g : Nat} {e : TypeId} {cs : List Value} {n : Nat} {f : Nat → Value} (h : Blk w g e cs) (hf : ∀ i, i < n → cs[i]? = some (f i)) : Rd w (some ⟨g, 0, none⟩) n f :=
  Or.inr ⟨g, 0, rfl, fun i hi => by rw [Nat.zero_add]; exact h.cell (hf i hi)⟩

theorem Rd.below {w w' : World} {B : Nat} {a : Option Addr} {n : Nat} {f : Nat → Value} (h : Rd w a n f) (hb : Below B w w') (hlt : w.heap.size ≤ B) : Rd w' a n f := by
  rcases h with h | ⟨b, off, rfl, h3⟩
  · exact Or.inl h
  · refine Or.inr ⟨b, off, rfl, fun i hi => ?_⟩
    rw [← h3 i hi]
    exact hb.cell (Nat.lt_of_lt_of_le (World.block_lt_of_cell? _ _ (h3 i hi)) hlt)

theorem Rd.at {w : World} {a : Option Addr} {n : Nat} {f : Nat → Value} (h : Rd w a n f) (hn : n ≠ 0) : ∃ b off, a = some ⟨b, off, none⟩ ∧ ∀ i, i < n → w.cell? ⟨b, off + i, none⟩ = some (f i) := by
  rcases h with h | h
  · exact absurd h hn
  · exact h

end Go.Proofs.Qxb6606138aDoor
