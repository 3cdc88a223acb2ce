/-
  Seat b6608953aD: append onto an owned buffer, as one step of a region that draws its order.
-/
import Derived.Test.Qxb6608953aDoorBuf
import Derived.Deep.RegionLaw
namespace Go.Proofs.Qxb6608953aDoor
open Go.RowKit Go.Lib

theorem step_bf {P : Program} {ops : Array Oper} {o : Oper} {a : Act} {w : World} {K : Act → World → Prop} {Q : Exit → Act → World → Prop} {E : Prop}
    (hg : o.guard = none) (s x : Operand) (t : TypeId) (hop : o.op = Op.call { callee := Callee.builtin Builtin.append, args := #[s, x], argTypes := #[t, t] })
    (i : TypeInfo) (ht : P.underlying t = some (.slice 5)) (hi : P.info? 5 = some i) (hz : i.zero = some (.int .u8 0)) (hsize : i.size = 1) (hby : i.bytes = 1)
    (B : Nat) (W0 : World) (v : Value) (l bs : List UInt8) (hb : Bf B W0 v l w) (hs : a.eval s = v) (ad : Addr) (hx : a.eval x = .slice (some ad) bs.length bs.length)
    (hc : ∀ j u, (bs.map bv)[j]? = some u → w.cell? (ad.add j) = some u) (hlen : l.length + bs.length ≤ 140737488355328)
    (hK : ∀ v' w', Bf B W0 v' (l ++ bs) w' → K (a.put o.dst v') w') :
    if Region.wanted o (yielded ops a.tmps) = true then Oper.wp P o a w K Q else E := by
  have hw : Region.wanted o (yielded ops a.tmps) = true := by simp [Region.wanted, hg]
  rw [if_pos hw]
  refine wp_append_own w s x t hop B 5 i (.int .u8 0) 1 1 ht hi hz hsize hby rfl (by decide) v l.length (l.map bv) hs hb.own ad bs.length bs.length (bs.map bv) hx (by simp) hc ?_ (by unfold maxLen; omega) (by omega) hb.le ?_
  · intro u hu
    obtain ⟨b, _, rfl⟩ := List.mem_map.1 hu
    rfl
  · intro v' w' ho' hg' _
    refine hK v' w' (hb.grown ?_ hg')
    rw [List.length_append, List.map_append]
    exact ho'

/-- The cells of the block that a statement has just laid. -/
theorem new_cells (w0 w : World) (cs : Array Value) (bs : List UInt8) (hh : w.heap = (w0.alloc (.cells cs 5)).heap) (hcs : cs = (bs.map bv).toArray) : ∀ j u, (bs.map bv)[j]? = some u → w.cell? ((⟨w0.heap.size, 0, none⟩ : Addr).add j) = some u := by
  intro j u hj
  have hn := heap_alloc_new w0 (.cells cs 5)
  rw [← hh] at hn
  rw [addr_add]
  unfold World.cell?
  simp only [hn, Nat.zero_add]
  rw [hcs]
  simpa using hj

theorem Bf.of_heap {B : Nat} {W0 w w' : World} {v : Value} {l : List UInt8} (h : Bf B W0 v l w) (hh : w'.heap = w.heap) (ho : w'.os = w.os) (ht : w'.tape = w.tape) (hu : w'.output = w.output) : Bf B W0 v l w' := by
  refine ⟨?_, ⟨ho.trans h.bel.os, ht.trans h.bel.tape, hu.trans h.bel.output, by rw [hh]; exact h.bel.size, fun k hk => by rw [hh]; exact h.bel.block k hk⟩, by rw [hh]; exact h.le⟩
  obtain ⟨h1, h2⟩ := h.own
  refine ⟨h1, ?_⟩
  rcases h2 with h2 | ⟨g, cap, cur, r1, r2, r3, r⟩
  · exact .inl h2
  · exact .inr ⟨g, cap, cur, r1, r2, by rw [hh]; exact r3, r⟩
end Go.Proofs.Qxb6608953aDoor
